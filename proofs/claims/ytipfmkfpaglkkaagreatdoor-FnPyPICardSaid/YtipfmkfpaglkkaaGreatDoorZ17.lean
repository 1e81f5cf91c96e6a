-- Written by a program of this session (myprint.py).
import Derived.Test.YtipfmkfpaglkkaaGreatDoorZ0
import Derived.Test.YtipfmkfpaglkkaaGreatDoorZ5
import Derived.Test.YtipfmkfpaglkkaaGreatDoorZ15
import Derived.Test.YtipfmkfpaglkkaaGreatDoorZ16
import Derived.Deep.MidRow
import Derived.Test.YtipfmkfpaglkkaaGreatDoorGe
namespace Go.Proofs.YtipfmkfpaglkkaaGreatDoor.Z
open Go.Proofs.YtipfmkfpaglkkaaGreatDoor.Gw
open Go.RowKit Go.Proofs.YtipfmkfpaglkkaaGreatDoorW.PrintWords Go.Proofs.YtipfmkfpaglkkaaGreatDoorW.PrintLast Go.Proofs.YtipfmkfpaglkkaaGreatDoorW.PrintMore
attribute [local go_sem high] Go.Proofs.YtipfmkfpaglkkaaGreatDoor.Ge.gtr_str
attribute [local go_sem] max2_int min2_int max_two min_two max_three min_three max_four min_four   -- for this text's walks alone
set_option linter.unusedVariables false
set_option linter.unusedSimpArgs false

-- PLUGGED spec_PyPICompare: function 8 (a text of this session)
def spec_PyPICompare.f (k : Nat) (a0_0 : Bool) (a0_1 : ByteArray) (l0_2 : List S23) (a0_3 : Bool) (a0_4 : ByteArray) (a0_5 : Bool) (a0_6 : ByteArray) (a0_7 : Bool) (a0_8 : ByteArray) (a0_9 : Bool) (a0_10 : ByteArray) (a0_11 : Bool) (a0_12 : ByteArray) (a0_13 : Bool) (a0_14 : ByteArray) (l0_15 : List ByteArray) (l0_16 : List ByteArray) (a1_0 : Bool) (a1_1 : ByteArray) (l1_2 : List S23) (a1_3 : Bool) (a1_4 : ByteArray) (a1_5 : Bool) (a1_6 : ByteArray) (a1_7 : Bool) (a1_8 : ByteArray) (a1_9 : Bool) (a1_10 : ByteArray) (a1_11 : Bool) (a1_12 : ByteArray) (a1_13 : Bool) (a1_14 : ByteArray) (l1_15 : List ByteArray) (l1_16 : List ByteArray) : Option Int := (spec_pypiLegacy.f k l0_16 l1_16).bind fun v1 => if v1 = 0 then (spec_intOrder.f k a0_0 a0_1 a1_0 a1_1).bind fun v2 => if v2 = 0 then (spec_CompareNumbers.f k l0_2 l1_2).bind fun v3 => if v3 = 0 then (spec_PyPIPre.f k a0_0 a0_1 l0_2 a0_3 a0_4 a0_5 a0_6 a0_7 a0_8 a0_9 a0_10 a0_11 a0_12 a0_13 a0_14 l0_15 l0_16 a1_0 a1_1 l1_2 a1_3 a1_4 a1_5 a1_6 a1_7 a1_8 a1_9 a1_10 a1_11 a1_12 a1_13 a1_14 l1_15 l1_16).bind fun v4 => if v4 = 0 then (spec_pypiPost.f k a0_7 a0_8 a0_9 a0_10 a1_7 a1_8 a1_9 a1_10).bind fun v5 => if v5 = 0 then (spec_pypiPost.f k a1_11 a1_12 a1_13 a1_14 a0_11 a0_12 a0_13 a0_14).bind fun v6 => if a0_11 = a1_11 then (spec_pypiPost.f k a0_11 a0_12 a0_13 a0_14 a1_11 a1_12 a1_13 a1_14).bind fun v7 => if v7 = 0 then (spec_PyPILocal.f k l0_15 l1_15) else some v7 else some v6 else some v5 else some v4 else some v3 else some v2 else some v1
theorem spec_PyPICompare.mono : ∀ a0 a1 a2 a3 a4 a5 a6 a7 a8 a9 a10 a11 a12 a13 a14 a15 a16 a17 a18 a19 a20 a21 a22 a23 a24 a25 a26 a27 a28 a29 a30 a31 a32 a33 k, LeO (spec_PyPICompare.f k a0 a1 a2 a3 a4 a5 a6 a7 a8 a9 a10 a11 a12 a13 a14 a15 a16 a17 a18 a19 a20 a21 a22 a23 a24 a25 a26 a27 a28 a29 a30 a31 a32 a33) (spec_PyPICompare.f (k + 1) a0 a1 a2 a3 a4 a5 a6 a7 a8 a9 a10 a11 a12 a13 a14 a15 a16 a17 a18 a19 a20 a21 a22 a23 a24 a25 a26 a27 a28 a29 a30 a31 a32 a33) := by
 intro a0 a1 a2 a3 a4 a5 a6 a7 a8 a9 a10 a11 a12 a13 a14 a15 a16 a17 a18 a19 a20 a21 a22 a23 a24 a25 a26 a27 a28 a29 a30 a31 a32 a33 k
 unfold spec_PyPICompare.f
 exact LeO.bind (spec_pypiLegacy.mono _ _ _) fun _ => LeO.ite (LeO.bind (spec_intOrder.mono _ _ _ _ _) fun _ => LeO.ite (LeO.bind (spec_CompareNumbers.mono _ _ _) fun _ => LeO.ite (LeO.bind (spec_PyPIPre.mono _ _ _ _ _ _ _ _ _ _ _ _ _ _ _ _ _ _ _ _ _ _ _ _ _ _ _ _ _ _ _ _ _ _ _) fun _ => LeO.ite (LeO.bind (spec_pypiPost.mono _ _ _ _ _ _ _ _ _) fun _ => LeO.ite (LeO.bind (spec_pypiPost.mono _ _ _ _ _ _ _ _ _) fun _ => LeO.ite (LeO.bind (spec_pypiPost.mono _ _ _ _ _ _ _ _ _) fun _ => LeO.ite (spec_PyPILocal.mono _ _ _) (LeO.refl _)) (LeO.refl _)) (LeO.refl _)) (LeO.refl _)) (LeO.refl _)) (LeO.refl _)) (LeO.refl _)
set_option maxRecDepth 100000 in
set_option maxHeartbeats 8000000 in
theorem spec_PyPICompare.calls (k : Nat) (a0_0 : Bool) (a0_1 : ByteArray) (A0_2 : Option Addr) (c0_2 : Nat) (l0_2 : List S23) (a0_3 : Bool) (a0_4 : ByteArray) (a0_5 : Bool) (a0_6 : ByteArray) (a0_7 : Bool) (a0_8 : ByteArray) (a0_9 : Bool) (a0_10 : ByteArray) (a0_11 : Bool) (a0_12 : ByteArray) (a0_13 : Bool) (a0_14 : ByteArray) (A0_15 : Option Addr) (c0_15 : Nat) (l0_15 : List ByteArray) (A0_16 : Option Addr) (c0_16 : Nat) (l0_16 : List ByteArray) (a1_0 : Bool) (a1_1 : ByteArray) (A1_2 : Option Addr) (c1_2 : Nat) (l1_2 : List S23) (a1_3 : Bool) (a1_4 : ByteArray) (a1_5 : Bool) (a1_6 : ByteArray) (a1_7 : Bool) (a1_8 : ByteArray) (a1_9 : Bool) (a1_10 : ByteArray) (a1_11 : Bool) (a1_12 : ByteArray) (a1_13 : Bool) (a1_14 : ByteArray) (A1_15 : Option Addr) (c1_15 : Nat) (l1_15 : List ByteArray) (A1_16 : Option Addr) (c1_16 : Nat) (l1_16 : List ByteArray) (r : Int) (w : World) (hr0_2 : Kd.C k23 w A0_2 l0_2.length l0_2) (hc0_2 : l0_2.length ≤ c0_2) (hr0_15 : Kd.C Kd.string w A0_15 l0_15.length l0_15) (hc0_15 : l0_15.length ≤ c0_15) (hr0_16 : Kd.C Kd.string w A0_16 l0_16.length l0_16) (hc0_16 : l0_16.length ≤ c0_16) (hr1_2 : Kd.C k23 w A1_2 l1_2.length l1_2) (hc1_2 : l1_2.length ≤ c1_2) (hr1_15 : Kd.C Kd.string w A1_15 l1_15.length l1_15) (hc1_15 : l1_15.length ≤ c1_15) (hr1_16 : Kd.C Kd.string w A1_16 l1_16.length l1_16) (hc1_16 : l1_16.length ≤ c1_16) (h : spec_PyPICompare.f k a0_0 a0_1 l0_2 a0_3 a0_4 a0_5 a0_6 a0_7 a0_8 a0_9 a0_10 a0_11 a0_12 a0_13 a0_14 l0_15 l0_16 a1_0 a1_1 l1_2 a1_3 a1_4 a1_5 a1_6 a1_7 a1_8 a1_9 a1_10 a1_11 a1_12 a1_13 a1_14 l1_15 l1_16 = some r) :
  Calls Tryz.prog 8 #[.agg #[.bool a0_0, .string a0_1, .slice A0_2 l0_2.length c0_2, .bool a0_3, .string a0_4, .bool a0_5, .string a0_6, .bool a0_7, .string a0_8, .bool a0_9, .string a0_10, .bool a0_11, .string a0_12, .bool a0_13, .string a0_14, .slice A0_15 l0_15.length c0_15, .slice A0_16 l0_16.length c0_16], .agg #[.bool a1_0, .string a1_1, .slice A1_2 l1_2.length c1_2, .bool a1_3, .string a1_4, .bool a1_5, .string a1_6, .bool a1_7, .string a1_8, .bool a1_9, .string a1_10, .bool a1_11, .string a1_12, .bool a1_13, .string a1_14, .slice A1_15 l1_15.length c1_15, .slice A1_16 l1_16.length c1_16]] w fun e w' => e = .returned (.int .i64 r) ∧ Below w.heap.size w w' := by
 unfold spec_PyPICompare.f at h
 obtain ⟨n0_2, hn0_2⟩ : ∃ n, n = l0_2.length := ⟨_, rfl⟩
 obtain ⟨n0_15, hn0_15⟩ : ∃ n, n = l0_15.length := ⟨_, rfl⟩
 obtain ⟨n0_16, hn0_16⟩ : ∃ n, n = l0_16.length := ⟨_, rfl⟩
 obtain ⟨n1_2, hn1_2⟩ : ∃ n, n = l1_2.length := ⟨_, rfl⟩
 obtain ⟨n1_15, hn1_15⟩ : ∃ n, n = l1_15.length := ⟨_, rfl⟩
 obtain ⟨n1_16, hn1_16⟩ : ∃ n, n = l1_16.length := ⟨_, rfl⟩
 rw [← hn0_2, ← hn0_15, ← hn0_16, ← hn1_2, ← hn1_15, ← hn1_16]
 have HHR := Aside0.mk (And.intro (And.intro (And.intro hr0_2 hc0_2) (And.intro (And.intro hr0_15 hc0_15) (And.intro (And.intro hr0_16 hc0_16) (And.intro (And.intro hr1_2 hc1_2) (And.intro (And.intro hr1_15 hc1_15) (And.intro hr1_16 hc1_16)))))) (And.intro hn0_2 (And.intro hn0_15 (And.intro hn0_16 (And.intro hn1_2 (And.intro hn1_15 hn1_16))))))
 have HH0 := Aside0.mk h
 clear h hr0_2 hc0_2 hn0_2 hr0_15 hc0_15 hn0_15 hr0_16 hc0_16 hn0_16 hr1_2 hc1_2 hn1_2 hr1_15 hc1_15 hn1_15 hr1_16 hc1_16 hn1_16
 obtain ⟨WA, hWA⟩ : ∃ WA : World, WA = (w.alloc (.cells #[.bool a0_0, .string a0_1, .slice A0_2 n0_2 c0_2, .bool a0_3, .string a0_4, .bool a0_5, .string a0_6, .bool a0_7, .string a0_8, .bool a0_9, .string a0_10, .bool a0_11, .string a0_12, .bool a0_13, .string a0_14, .slice A0_15 n0_15 c0_15, .slice A0_16 n0_16 c0_16] 29)).alloc (.cells #[.bool a1_0, .string a1_1, .slice A1_2 n1_2 c1_2, .bool a1_3, .string a1_4, .bool a1_5, .string a1_6, .bool a1_7, .string a1_8, .bool a1_9, .string a1_10, .bool a1_11, .string a1_12, .bool a1_13, .string a1_14, .slice A1_15 n1_15 c1_15, .slice A1_16 n1_16 c1_16] 29) := ⟨_, rfl⟩
 have hs1 : (w.alloc (.cells #[.bool a0_0, .string a0_1, .slice A0_2 n0_2 c0_2, .bool a0_3, .string a0_4, .bool a0_5, .string a0_6, .bool a0_7, .string a0_8, .bool a0_9, .string a0_10, .bool a0_11, .string a0_12, .bool a0_13, .string a0_14, .slice A0_15 n0_15 c0_15, .slice A0_16 n0_16 c0_16] 29)).heap.size = w.heap.size + 1 := by simp
 have c98 : WA.heap[w.heap.size]? = some (.cells #[.bool a0_0, .string a0_1, .slice A0_2 n0_2 c0_2, .bool a0_3, .string a0_4, .bool a0_5, .string a0_6, .bool a0_7, .string a0_8, .bool a0_9, .string a0_10, .bool a0_11, .string a0_12, .bool a0_13, .string a0_14, .slice A0_15 n0_15 c0_15, .slice A0_16 n0_16 c0_16] 29 (0, 0)) := by rw [hWA]; exact blk_alloc (blk_new w _) _
 have c97 : WA.heap[w.heap.size + 1]? = some (.cells #[.bool a1_0, .string a1_1, .slice A1_2 n1_2 c1_2, .bool a1_3, .string a1_4, .bool a1_5, .string a1_6, .bool a1_7, .string a1_8, .bool a1_9, .string a1_10, .bool a1_11, .string a1_12, .bool a1_13, .string a1_14, .slice A1_15 n1_15 c1_15, .slice A1_16 n1_16 c1_16] 29 (0, 0)) := by
  have := blk_new (w.alloc (.cells #[.bool a0_0, .string a0_1, .slice A0_2 n0_2 c0_2, .bool a0_3, .string a0_4, .bool a0_5, .string a0_6, .bool a0_7, .string a0_8, .bool a0_9, .string a0_10, .bool a0_11, .string a0_12, .bool a0_13, .string a0_14, .slice A0_15 n0_15 c0_15, .slice A0_16 n0_16 c0_16] 29)) (.cells #[.bool a1_0, .string a1_1, .slice A1_2 n1_2 c1_2, .bool a1_3, .string a1_4, .bool a1_5, .string a1_6, .bool a1_7, .string a1_8, .bool a1_9, .string a1_10, .bool a1_11, .string a1_12, .bool a1_13, .string a1_14, .slice A1_15 n1_15 c1_15, .slice A1_16 n1_16 c1_16] 29)
  rw [hs1] at this
  rw [hWA]
  exact this
 have BA : Aside0 (Below w.heap.size w WA) := ⟨by rw [hWA]; exact ((Below.refl _ w).alloc (Nat.le_refl _) _).alloc (by simp) _⟩
 have Q0 : Aside0 (∀ W, Below WA.heap.size WA W → ∀ j v, [.bool a0_0, .string a0_1, .slice A0_2 n0_2 c0_2, .bool a0_3, .string a0_4, .bool a0_5, .string a0_6, .bool a0_7, .string a0_8, .bool a0_9, .string a0_10, .bool a0_11, .string a0_12, .bool a0_13, .string a0_14, .slice A0_15 n0_15 c0_15, .slice A0_16 n0_16 c0_16][j]? = some v → W.cell? ((⟨w.heap.size, 0, none⟩ : Addr).add j) = some v) := ⟨fun W hB j v hv => by rw [Addr.add_mid]; exact py_rng (cs := [.bool a0_0, .string a0_1, .slice A0_2 n0_2 c0_2, .bool a0_3, .string a0_4, .bool a0_5, .string a0_6, .bool a0_7, .string a0_8, .bool a0_9, .string a0_10, .bool a0_11, .string a0_12, .bool a0_13, .string a0_14, .slice A0_15 n0_15 c0_15, .slice A0_16 n0_16 c0_16]) (pl_keep hB c98) j v hv⟩
 have Q1 : Aside0 (∀ W, Below WA.heap.size WA W → ∀ j v, [.bool a1_0, .string a1_1, .slice A1_2 n1_2 c1_2, .bool a1_3, .string a1_4, .bool a1_5, .string a1_6, .bool a1_7, .string a1_8, .bool a1_9, .string a1_10, .bool a1_11, .string a1_12, .bool a1_13, .string a1_14, .slice A1_15 n1_15 c1_15, .slice A1_16 n1_16 c1_16][j]? = some v → W.cell? ((⟨w.heap.size + 1, 0, none⟩ : Addr).add j) = some v) := ⟨fun W hB j v hv => by rw [Addr.add_mid]; exact py_rng (cs := [.bool a1_0, .string a1_1, .slice A1_2 n1_2 c1_2, .bool a1_3, .string a1_4, .bool a1_5, .string a1_6, .bool a1_7, .string a1_8, .bool a1_9, .string a1_10, .bool a1_11, .string a1_12, .bool a1_13, .string a1_14, .slice A1_15 n1_15 c1_15, .slice A1_16 n1_16 c1_16]) (pl_keep hB c97) j v hv⟩
 have HK := Aside0.mk (fun (W : World) (hB : Below WA.heap.size WA W) => And.intro (pl_S17 (pl_keep hB c98)) (pl_S17 (pl_keep hB c97)))
 have HWA := Aside0.mk hWA
 clear hWA hs1 c98 c97
 have hu := Tryz.underlying29
 go_enter Tryz.func8, Tryz.ntmps8
 go_upto_region 1 with fail
 rw [← HWA.out]
 clear HWA
 have C0 : Aside0 (Below WA.heap.size WA WA) := ⟨Below.refl _ _⟩
 obtain ⟨v1, h1, h2⟩ := Option.bind_eq_some_iff.1 HH0.out
 have HH1 := Aside0.mk h2
 clear h2 HH0
 have K1 : Aside0 (∀ W, Below w.heap.size w W → Calls Tryz.prog 20 #[.slice A0_16 n0_16 c0_16, .slice A1_16 n1_16 c1_16] W fun e w' => e = .returned (.int .i64 v1) ∧ Below W.heap.size W w') := ⟨fun W hB => by
  obtain ⟨⟨⟨hr0_2, hc0_2⟩, ⟨hr0_15, hc0_15⟩, ⟨hr0_16, hc0_16⟩, ⟨hr1_2, hc1_2⟩, ⟨hr1_15, hc1_15⟩, ⟨hr1_16, hc1_16⟩⟩, hn0_2, hn0_15, hn0_16, hn1_2, hn1_15, hn1_16⟩ := HHR.out
  simp only [hn0_2, hn0_15, hn0_16, hn1_2, hn1_15, hn1_16]
  exact (spec_pypiLegacy.calls k A0_16 c0_16 l0_16 A1_16 c1_16 l1_16 v1 W (Kd.C_below hr0_16 hB) hc0_16 (Kd.C_below hr1_16 hB) hc1_16 h1).mono fun e w' h => ⟨h.1, pl_drawn h.2⟩⟩
 have K1 := Aside0.mk (K1.out WA (pl_next BA.out C0.out))
 clear h1
 obtain ⟨⟨-, -, -, -, -, -, -, -, -, -, -, -, -, -, -, -, x16⟩, ⟨-, -, -, -, -, -, -, -, -, -, -, -, -, -, -, -, y16⟩⟩ := HK.out WA C0.out
 go_wp2_with (go_at_call 20; (with_reducible refine (K1.out).mono ?_))
 rintro e W1 ⟨rfl, hB⟩
 have C1 : Aside0 (Below WA.heap.size WA W1) := ⟨pl_next C0.out hB⟩
 clear hB C0 K1 x16 y16
 by_cases hv : v1 = 0
 ·have h := HH1.out
  rw [if_pos hv] at h
  have HH1 := Aside0.mk h
  have b0 : (v1 == 0) = true := beq_iff_eq.2 hv
  clear h
  subst hv
  go_upto_region 4 with fail
  clear b0
  obtain ⟨v2, h1, h2⟩ := Option.bind_eq_some_iff.1 HH1.out
  have HH2 := Aside0.mk h2
  clear h2 HH1
  have K2 : Aside0 (∀ W, Below w.heap.size w W → Calls Tryz.prog 21 #[.agg #[.bool a0_0, .string a0_1], .agg #[.bool a1_0, .string a1_1]] W fun e w' => e = .returned (.int .i64 v2) ∧ Below W.heap.size W w') := ⟨fun W hB => by
   obtain ⟨⟨⟨hr0_2, hc0_2⟩, ⟨hr0_15, hc0_15⟩, ⟨hr0_16, hc0_16⟩, ⟨hr1_2, hc1_2⟩, ⟨hr1_15, hc1_15⟩, ⟨hr1_16, hc1_16⟩⟩, hn0_2, hn0_15, hn0_16, hn1_2, hn1_15, hn1_16⟩ := HHR.out
   skip
   exact spec_intOrder.calls k a0_0 a0_1 a1_0 a1_1 v2 W h1⟩
  have K2 := Aside0.mk (K2.out W1 (pl_next BA.out C1.out))
  clear h1
  obtain ⟨⟨x0, x1, -, -, -, -, -, -, -, -, -, -, -, -, -, -, -⟩, ⟨y0, y1, -, -, -, -, -, -, -, -, -, -, -, -, -, -, -⟩⟩ := HK.out W1 C1.out
  go_wp2_with (go_at_call 21; (with_reducible refine (K2.out).mono ?_))
  rintro e W2 ⟨rfl, hB⟩
  have C2 : Aside0 (Below WA.heap.size WA W2) := ⟨pl_next C1.out hB⟩
  clear hB C1 K2 x0 x1 y0 y1
  by_cases hv : v2 = 0
  ·have h := HH2.out
   rw [if_pos hv] at h
   have HH2 := Aside0.mk h
   have b0 : (v2 == 0) = true := beq_iff_eq.2 hv
   clear h
   subst hv
   go_upto_region 7 with fail
   clear b0
   obtain ⟨v3, h1, h2⟩ := Option.bind_eq_some_iff.1 HH2.out
   have HH3 := Aside0.mk h2
   clear h2 HH2
   have K3 : Aside0 (∀ W, Below w.heap.size w W → Calls Tryz.prog 22 #[.slice A0_2 n0_2 c0_2, .slice A1_2 n1_2 c1_2] W fun e w' => e = .returned (.int .i64 v3) ∧ Below W.heap.size W w') := ⟨fun W hB => by
    obtain ⟨⟨⟨hr0_2, hc0_2⟩, ⟨hr0_15, hc0_15⟩, ⟨hr0_16, hc0_16⟩, ⟨hr1_2, hc1_2⟩, ⟨hr1_15, hc1_15⟩, ⟨hr1_16, hc1_16⟩⟩, hn0_2, hn0_15, hn0_16, hn1_2, hn1_15, hn1_16⟩ := HHR.out
    simp only [hn0_2, hn0_15, hn0_16, hn1_2, hn1_15, hn1_16]
    exact spec_CompareNumbers.calls k A0_2 c0_2 l0_2 A1_2 c1_2 l1_2 v3 W (Kd.C_below hr0_2 hB) hc0_2 (Kd.C_below hr1_2 hB) hc1_2 h1⟩
   have K3 := Aside0.mk (K3.out W2 (pl_next BA.out C2.out))
   clear h1
   obtain ⟨⟨-, -, x2, -, -, -, -, -, -, -, -, -, -, -, -, -, -⟩, ⟨-, -, y2, -, -, -, -, -, -, -, -, -, -, -, -, -, -⟩⟩ := HK.out W2 C2.out
   go_wp2_with (go_at_call 22; (with_reducible refine (K3.out).mono ?_))
   rintro e W3 ⟨rfl, hB⟩
   have C3 : Aside0 (Below WA.heap.size WA W3) := ⟨pl_next C2.out hB⟩
   clear hB C2 K3 x2 y2
   by_cases hv : v3 = 0
   ·have h := HH3.out
    rw [if_pos hv] at h
    have HH3 := Aside0.mk h
    have b0 : (v3 == 0) = true := beq_iff_eq.2 hv
    clear h
    subst hv
    go_upto_region 10 with fail
    clear b0
    obtain ⟨v4, h1, h2⟩ := Option.bind_eq_some_iff.1 HH3.out
    have HH4 := Aside0.mk h2
    clear h2 HH3
    have K4 : Aside0 (∀ W, Below w.heap.size w W → Calls Tryz.prog 23 #[.agg #[.bool a0_0, .string a0_1, .slice A0_2 n0_2 c0_2, .bool a0_3, .string a0_4, .bool a0_5, .string a0_6, .bool a0_7, .string a0_8, .bool a0_9, .string a0_10, .bool a0_11, .string a0_12, .bool a0_13, .string a0_14, .slice A0_15 n0_15 c0_15, .slice A0_16 n0_16 c0_16], .agg #[.bool a1_0, .string a1_1, .slice A1_2 n1_2 c1_2, .bool a1_3, .string a1_4, .bool a1_5, .string a1_6, .bool a1_7, .string a1_8, .bool a1_9, .string a1_10, .bool a1_11, .string a1_12, .bool a1_13, .string a1_14, .slice A1_15 n1_15 c1_15, .slice A1_16 n1_16 c1_16]] W fun e w' => e = .returned (.int .i64 v4) ∧ Below W.heap.size W w') := ⟨fun W hB => by
     obtain ⟨⟨⟨hr0_2, hc0_2⟩, ⟨hr0_15, hc0_15⟩, ⟨hr0_16, hc0_16⟩, ⟨hr1_2, hc1_2⟩, ⟨hr1_15, hc1_15⟩, ⟨hr1_16, hc1_16⟩⟩, hn0_2, hn0_15, hn0_16, hn1_2, hn1_15, hn1_16⟩ := HHR.out
     simp only [hn0_2, hn0_15, hn0_16, hn1_2, hn1_15, hn1_16]
     exact spec_PyPIPre.calls k a0_0 a0_1 A0_2 c0_2 l0_2 a0_3 a0_4 a0_5 a0_6 a0_7 a0_8 a0_9 a0_10 a0_11 a0_12 a0_13 a0_14 A0_15 c0_15 l0_15 A0_16 c0_16 l0_16 a1_0 a1_1 A1_2 c1_2 l1_2 a1_3 a1_4 a1_5 a1_6 a1_7 a1_8 a1_9 a1_10 a1_11 a1_12 a1_13 a1_14 A1_15 c1_15 l1_15 A1_16 c1_16 l1_16 v4 W (Kd.C_below hr0_2 hB) hc0_2 (Kd.C_below hr0_15 hB) hc0_15 (Kd.C_below hr0_16 hB) hc0_16 (Kd.C_below hr1_2 hB) hc1_2 (Kd.C_below hr1_15 hB) hc1_15 (Kd.C_below hr1_16 hB) hc1_16 h1⟩
    have K4 := Aside0.mk (K4.out W3 (pl_next BA.out C3.out))
    clear h1
    go_wp2_with (first | ((with_reducible refine gate_dst (N := 36) rfl ?_); refine py_load rfl 29 (.tmp 2) rfl ⟨w.heap.size, 0, none⟩ rfl _ _ (Q0.out _ C3.out) hu rfl py_info ?_) | ((with_reducible refine gate_dst (N := 37) rfl ?_); refine py_load rfl 29 (.tmp 3) rfl ⟨w.heap.size + 1, 0, none⟩ rfl _ _ (Q1.out _ C3.out) hu rfl py_info ?_) | (go_at_call 23; (with_reducible refine (K4.out).mono ?_)))
    rintro e W4 ⟨rfl, hB⟩
    have C4 : Aside0 (Below WA.heap.size WA W4) := ⟨pl_next C3.out hB⟩
    clear hB C3 K4 
    by_cases hv : v4 = 0
    ·have h := HH4.out
     rw [if_pos hv] at h
     have HH4 := Aside0.mk h
     have b0 : (v4 == 0) = true := beq_iff_eq.2 hv
     clear h
     subst hv
     go_upto_region 13 with fail
     clear b0
     obtain ⟨v5, h1, h2⟩ := Option.bind_eq_some_iff.1 HH4.out
     have HH5 := Aside0.mk h2
     clear h2 HH4
     have K5 : Aside0 (∀ W, Below w.heap.size w W → Calls Tryz.prog 24 #[.agg #[.bool a0_7, .string a0_8, .bool a0_9, .string a0_10], .agg #[.bool a1_7, .string a1_8, .bool a1_9, .string a1_10]] W fun e w' => e = .returned (.int .i64 v5) ∧ Below W.heap.size W w') := ⟨fun W hB => by
      obtain ⟨⟨⟨hr0_2, hc0_2⟩, ⟨hr0_15, hc0_15⟩, ⟨hr0_16, hc0_16⟩, ⟨hr1_2, hc1_2⟩, ⟨hr1_15, hc1_15⟩, ⟨hr1_16, hc1_16⟩⟩, hn0_2, hn0_15, hn0_16, hn1_2, hn1_15, hn1_16⟩ := HHR.out
      skip
      exact spec_pypiPost.calls k a0_7 a0_8 a0_9 a0_10 a1_7 a1_8 a1_9 a1_10 v5 W h1⟩
     have K5 := Aside0.mk (K5.out W4 (pl_next BA.out C4.out))
     clear h1
     obtain ⟨⟨-, -, -, -, -, -, -, x7, x8, x9, x10, -, -, -, -, -, -⟩, ⟨-, -, -, -, -, -, -, y7, y8, y9, y10, -, -, -, -, -, -⟩⟩ := HK.out W4 C4.out
     go_wp2_with (go_at_call 24; (with_reducible refine (K5.out).mono ?_))
     rintro e W5 ⟨rfl, hB⟩
     have C5 : Aside0 (Below WA.heap.size WA W5) := ⟨pl_next C4.out hB⟩
     clear hB C4 K5 x7 x8 x9 x10 y7 y8 y9 y10
     by_cases hv : v5 = 0
     ·have h := HH5.out
      rw [if_pos hv] at h
      have HH5 := Aside0.mk h
      have b0 : (v5 == 0) = true := beq_iff_eq.2 hv
      clear h
      subst hv
      go_upto_region 16 with fail
      clear b0
      obtain ⟨v6, h1, h2⟩ := Option.bind_eq_some_iff.1 HH5.out
      have HH6 := Aside0.mk h2
      clear h2 HH5
      have K6 : Aside0 (∀ W, Below w.heap.size w W → Calls Tryz.prog 24 #[.agg #[.bool a1_11, .string a1_12, .bool a1_13, .string a1_14], .agg #[.bool a0_11, .string a0_12, .bool a0_13, .string a0_14]] W fun e w' => e = .returned (.int .i64 v6) ∧ Below W.heap.size W w') := ⟨fun W hB => by
       obtain ⟨⟨⟨hr0_2, hc0_2⟩, ⟨hr0_15, hc0_15⟩, ⟨hr0_16, hc0_16⟩, ⟨hr1_2, hc1_2⟩, ⟨hr1_15, hc1_15⟩, ⟨hr1_16, hc1_16⟩⟩, hn0_2, hn0_15, hn0_16, hn1_2, hn1_15, hn1_16⟩ := HHR.out
       skip
       exact spec_pypiPost.calls k a1_11 a1_12 a1_13 a1_14 a0_11 a0_12 a0_13 a0_14 v6 W h1⟩
      have K6 := Aside0.mk (K6.out W5 (pl_next BA.out C5.out))
      clear h1
      obtain ⟨⟨-, -, -, -, -, -, -, -, -, -, -, x11, x12, x13, x14, -, -⟩, ⟨-, -, -, -, -, -, -, -, -, -, -, y11, y12, y13, y14, -, -⟩⟩ := HK.out W5 C5.out
      go_wp2_with (go_at_call 24; (with_reducible refine (K6.out).mono ?_))
      rintro e W6 ⟨rfl, hB⟩
      have C6 : Aside0 (Below WA.heap.size WA W6) := ⟨pl_next C5.out hB⟩
      clear hB C5 K6 x11 x12 x13 x14 y11 y12 y13 y14
      by_cases hd : a0_11 = a1_11
      ·have h := HH6.out
       rw [if_pos hd] at h
       have HH6 := Aside0.mk h
       clear h
       obtain ⟨⟨-, -, -, -, -, -, -, -, -, -, -, x11, -, -, -, -, -⟩, ⟨-, -, -, -, -, -, -, -, -, -, -, y11, -, -, -, -, -⟩⟩ := HK.out W6 C6.out
       have b0 : (a0_11 != a1_11) = false := by rw [hd]; cases a1_11 <;> rfl
       have b1 : (a0_11 == a1_11) = true := by rw [hd]; cases a1_11 <;> rfl
       have b2 : ((!a0_11) == a1_11) = false := by rw [hd]; cases a1_11 <;> rfl
       go_upto_region 19 with fail
       clear x11 y11 hd b0 b1 b2
       obtain ⟨v7, h1, h2⟩ := Option.bind_eq_some_iff.1 HH6.out
       have HH7 := Aside0.mk h2
       clear h2 HH6
       have K7 : Aside0 (∀ W, Below w.heap.size w W → Calls Tryz.prog 24 #[.agg #[.bool a0_11, .string a0_12, .bool a0_13, .string a0_14], .agg #[.bool a1_11, .string a1_12, .bool a1_13, .string a1_14]] W fun e w' => e = .returned (.int .i64 v7) ∧ Below W.heap.size W w') := ⟨fun W hB => by
        obtain ⟨⟨⟨hr0_2, hc0_2⟩, ⟨hr0_15, hc0_15⟩, ⟨hr0_16, hc0_16⟩, ⟨hr1_2, hc1_2⟩, ⟨hr1_15, hc1_15⟩, ⟨hr1_16, hc1_16⟩⟩, hn0_2, hn0_15, hn0_16, hn1_2, hn1_15, hn1_16⟩ := HHR.out
        skip
        exact spec_pypiPost.calls k a0_11 a0_12 a0_13 a0_14 a1_11 a1_12 a1_13 a1_14 v7 W h1⟩
       have K7 := Aside0.mk (K7.out W6 (pl_next BA.out C6.out))
       clear h1
       obtain ⟨⟨-, -, -, -, -, -, -, -, -, -, -, x11, x12, x13, x14, -, -⟩, ⟨-, -, -, -, -, -, -, -, -, -, -, y11, y12, y13, y14, -, -⟩⟩ := HK.out W6 C6.out
       go_wp2_with (go_at_call 24; (with_reducible refine (K7.out).mono ?_))
       rintro e W7 ⟨rfl, hB⟩
       have C7 : Aside0 (Below WA.heap.size WA W7) := ⟨pl_next C6.out hB⟩
       clear hB C6 K7 x11 x12 x13 x14 y11 y12 y13 y14
       by_cases hv : v7 = 0
       ·have h := HH7.out
        rw [if_pos hv] at h
        have HH7 := Aside0.mk h
        have b0 : (v7 == 0) = true := beq_iff_eq.2 hv
        clear h
        subst hv
        go_upto_region 22 with fail
        clear b0
        have h1 := HH7.out
        clear HH7
        have K8 : Aside0 (∀ W, Below w.heap.size w W → Calls Tryz.prog 25 #[.slice A0_15 n0_15 c0_15, .slice A1_15 n1_15 c1_15] W fun e w' => e = .returned (.int .i64 r) ∧ Below W.heap.size W w') := ⟨fun W hB => by
         obtain ⟨⟨⟨hr0_2, hc0_2⟩, ⟨hr0_15, hc0_15⟩, ⟨hr0_16, hc0_16⟩, ⟨hr1_2, hc1_2⟩, ⟨hr1_15, hc1_15⟩, ⟨hr1_16, hc1_16⟩⟩, hn0_2, hn0_15, hn0_16, hn1_2, hn1_15, hn1_16⟩ := HHR.out
         simp only [hn0_2, hn0_15, hn0_16, hn1_2, hn1_15, hn1_16]
         exact (spec_PyPILocal.calls k A0_15 c0_15 l0_15 A1_15 c1_15 l1_15 r W (Kd.C_below hr0_15 hB) hc0_15 (Kd.C_below hr1_15 hB) hc1_15 h1).mono fun e w' h => ⟨h.1, pl_drawn h.2⟩⟩
        have K8 := Aside0.mk (K8.out W7 (pl_next BA.out C7.out))
        clear h1
        obtain ⟨⟨-, -, -, -, -, -, -, -, -, -, -, -, -, -, -, x15, -⟩, ⟨-, -, -, -, -, -, -, -, -, -, -, -, -, -, -, y15, -⟩⟩ := HK.out W7 C7.out
        go_wp2_with (go_at_call 25; (with_reducible refine (K8.out).mono ?_))
        rintro e W8 ⟨rfl, hB⟩
        have C8 : Aside0 (Below WA.heap.size WA W8) := ⟨pl_next C7.out hB⟩
        clear hB C7 K8 x15 y15
        have HBB : Aside0 (Below w.heap.size w W8) := ⟨pl_next BA.out C8.out⟩
        clear HHR Q0 Q1 HK hu C8 BA
        go_wp2
        go_ret
        exact ⟨rfl, HBB.out⟩
       ·have h := HH7.out
        rw [if_neg hv] at h
        have HR := Aside0.mk (Option.some.inj h)
        clear h HH7
        have b0 : (v7 == 0) = false := beq_eq_false_iff_ne.2 hv
        have HBB : Aside0 (Below w.heap.size w W7) := ⟨pl_next BA.out C7.out⟩
        clear HHR Q0 Q1 HK hu C7 BA
        go_wp2
        go_ret
        exact ⟨by rw [← HR.out]; rfl, HBB.out⟩
      ·have h := HH6.out
       rw [if_neg hd] at h
       have HR := Aside0.mk (Option.some.inj h)
       clear h HH6
       obtain ⟨⟨-, -, -, -, -, -, -, -, -, -, -, x11, -, -, -, -, -⟩, ⟨-, -, -, -, -, -, -, -, -, -, -, y11, -, -, -, -, -⟩⟩ := HK.out W6 C6.out
       have b0 : (a0_11 != a1_11) = true := by cases a0_11 <;> cases a1_11 <;> first | rfl | exact absurd rfl hd
       have b1 : (a0_11 == a1_11) = false := by cases a0_11 <;> cases a1_11 <;> first | rfl | exact absurd rfl hd
       have b2 : ((!a0_11) == a1_11) = true := by cases a0_11 <;> cases a1_11 <;> first | rfl | exact absurd rfl hd
       have HBB : Aside0 (Below w.heap.size w W6) := ⟨pl_next BA.out C6.out⟩
       clear HHR Q0 Q1 HK hu C6 BA
       go_wp2
       go_ret
       exact ⟨by rw [← HR.out]; rfl, HBB.out⟩
     ·have h := HH5.out
      rw [if_neg hv] at h
      have HR := Aside0.mk (Option.some.inj h)
      clear h HH5
      have b0 : (v5 == 0) = false := beq_eq_false_iff_ne.2 hv
      have HBB : Aside0 (Below w.heap.size w W5) := ⟨pl_next BA.out C5.out⟩
      clear HHR Q0 Q1 HK hu C5 BA
      go_wp2
      go_ret
      exact ⟨by rw [← HR.out]; rfl, HBB.out⟩
    ·have h := HH4.out
     rw [if_neg hv] at h
     have HR := Aside0.mk (Option.some.inj h)
     clear h HH4
     have b0 : (v4 == 0) = false := beq_eq_false_iff_ne.2 hv
     have HBB : Aside0 (Below w.heap.size w W4) := ⟨pl_next BA.out C4.out⟩
     clear HHR Q0 Q1 HK hu C4 BA
     go_wp2
     go_ret
     exact ⟨by rw [← HR.out]; rfl, HBB.out⟩
   ·have h := HH3.out
    rw [if_neg hv] at h
    have HR := Aside0.mk (Option.some.inj h)
    clear h HH3
    have b0 : (v3 == 0) = false := beq_eq_false_iff_ne.2 hv
    have HBB : Aside0 (Below w.heap.size w W3) := ⟨pl_next BA.out C3.out⟩
    clear HHR Q0 Q1 HK hu C3 BA
    go_wp2
    go_ret
    exact ⟨by rw [← HR.out]; rfl, HBB.out⟩
  ·have h := HH2.out
   rw [if_neg hv] at h
   have HR := Aside0.mk (Option.some.inj h)
   clear h HH2
   have b0 : (v2 == 0) = false := beq_eq_false_iff_ne.2 hv
   have HBB : Aside0 (Below w.heap.size w W2) := ⟨pl_next BA.out C2.out⟩
   clear HHR Q0 Q1 HK hu C2 BA
   go_wp2
   go_ret
   exact ⟨by rw [← HR.out]; rfl, HBB.out⟩
 ·have h := HH1.out
  rw [if_neg hv] at h
  have HR := Aside0.mk (Option.some.inj h)
  clear h HH1
  have b0 : (v1 == 0) = false := beq_eq_false_iff_ne.2 hv
  have HBB : Aside0 (Below w.heap.size w W1) := ⟨pl_next BA.out C1.out⟩
  clear HHR Q0 Q1 HK hu C1 BA
  go_wp2
  go_ret
  exact ⟨by rw [← HR.out]; rfl, HBB.out⟩

end Go.Proofs.YtipfmkfpaglkkaaGreatDoor.Z
