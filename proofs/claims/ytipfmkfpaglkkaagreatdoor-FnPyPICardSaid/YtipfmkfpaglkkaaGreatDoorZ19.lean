-- Written by a program of this session (myprint.py).
import Derived.Test.YtipfmkfpaglkkaaGreatDoorZ0
import Derived.Test.YtipfmkfpaglkkaaGreatDoorZ2
import Derived.Test.YtipfmkfpaglkkaaGreatDoorZ5
import Derived.Test.YtipfmkfpaglkkaaGreatDoorZ14
import Derived.Test.YtipfmkfpaglkkaaGreatDoorZ17
import Derived.Test.YtipfmkfpaglkkaaGreatDoorZ18
import Derived.Deep.MidRow
import Derived.Test.YtipfmkfpaglkkaaGreatDoorGe
namespace Go.Proofs.YtipfmkfpaglkkaaGreatDoor.Z
open Go.Proofs.YtipfmkfpaglkkaaGreatDoor.Gw
open Go.RowKit Go.Proofs.YtipfmkfpaglkkaaGreatDoorW.PrintWords Go.Proofs.YtipfmkfpaglkkaaGreatDoorW.PrintLast Go.Proofs.YtipfmkfpaglkkaaGreatDoorW.PrintMore
attribute [local go_sem high] Go.Proofs.YtipfmkfpaglkkaaGreatDoor.Ge.gtr_str
attribute [local go_sem] max2_int min2_int max_two min_two max_three min_three max_four min_four   -- for this text's walks alone
set_option linter.unusedVariables false
set_option linter.unusedSimpArgs false

-- PLUGGED laws_FnPyPI: function 3 (a text of this session)
def laws_FnPyPI.f (k : Nat) (a0_0 : Bool) (a0_1 : ByteArray) (l0_2 : List S23) (a0_3 : Bool) (a0_4 : ByteArray) (a0_5 : Bool) (a0_6 : ByteArray) (a0_7 : Bool) (a0_8 : ByteArray) (a0_9 : Bool) (a0_10 : ByteArray) (a0_11 : Bool) (a0_12 : ByteArray) (a0_13 : Bool) (a0_14 : ByteArray) (l0_15 : List ByteArray) (l0_16 : List ByteArray) (a1_0 : Bool) (a1_1 : ByteArray) (l1_2 : List S23) (a1_3 : Bool) (a1_4 : ByteArray) (a1_5 : Bool) (a1_6 : ByteArray) (a1_7 : Bool) (a1_8 : ByteArray) (a1_9 : Bool) (a1_10 : ByteArray) (a1_11 : Bool) (a1_12 : ByteArray) (a1_13 : Bool) (a1_14 : ByteArray) (l1_15 : List ByteArray) (l1_16 : List ByteArray) : Option Bool := (laws_zzFits12.f k a0_0 a0_1 l0_2 a0_3 a0_4 a0_5 a0_6 a0_7 a0_8 a0_9 a0_10 a0_11 a0_12 a0_13 a0_14 l0_15 l0_16).bind fun a => if a = true then (laws_zzFits12.f k a1_0 a1_1 l1_2 a1_3 a1_4 a1_5 a1_6 a1_7 a1_8 a1_9 a1_10 a1_11 a1_12 a1_13 a1_14 l1_15 l1_16).bind fun b => if b = true then (laws_pypi.f k [(⟨⟨a0_0, a0_1⟩, l0_2, ⟨a0_3, a0_4, ⟨a0_5, a0_6⟩⟩, ⟨a0_7, a0_8, ⟨a0_9, a0_10⟩⟩, ⟨a0_11, a0_12, ⟨a0_13, a0_14⟩⟩, l0_15, l0_16⟩ : S29), (⟨⟨a1_0, a1_1⟩, l1_2, ⟨a1_3, a1_4, ⟨a1_5, a1_6⟩⟩, ⟨a1_7, a1_8, ⟨a1_9, a1_10⟩⟩, ⟨a1_11, a1_12, ⟨a1_13, a1_14⟩⟩, l1_15, l1_16⟩ : S29)]).bind fun c => if c = true then (impl_PyPICompare.f k a0_0 a0_1 l0_2 a0_3 a0_4 a0_5 a0_6 a0_7 a0_8 a0_9 a0_10 a0_11 a0_12 a0_13 a0_14 l0_15 l0_16 a1_0 a1_1 l1_2 a1_3 a1_4 a1_5 a1_6 a1_7 a1_8 a1_9 a1_10 a1_11 a1_12 a1_13 a1_14 l1_15 l1_16).bind fun r => (spec_PyPICompare.f k a0_0 a0_1 l0_2 a0_3 a0_4 a0_5 a0_6 a0_7 a0_8 a0_9 a0_10 a0_11 a0_12 a0_13 a0_14 l0_15 l0_16 a1_0 a1_1 l1_2 a1_3 a1_4 a1_5 a1_6 a1_7 a1_8 a1_9 a1_10 a1_11 a1_12 a1_13 a1_14 l1_15 l1_16).bind fun s => if r = s then (impl_PyPICompare.f k a1_0 a1_1 l1_2 a1_3 a1_4 a1_5 a1_6 a1_7 a1_8 a1_9 a1_10 a1_11 a1_12 a1_13 a1_14 l1_15 l1_16 a0_0 a0_1 l0_2 a0_3 a0_4 a0_5 a0_6 a0_7 a0_8 a0_9 a0_10 a0_11 a0_12 a0_13 a0_14 l0_15 l0_16).bind fun q => laws_turned.f r q else some false else some true else some true else some true
def laws_FnPyPI.Pure : Prop := ∀ (a0_0 : Bool) (a0_1 : ByteArray) (l0_2 : List S23) (a0_3 : Bool) (a0_4 : ByteArray) (a0_5 : Bool) (a0_6 : ByteArray) (a0_7 : Bool) (a0_8 : ByteArray) (a0_9 : Bool) (a0_10 : ByteArray) (a0_11 : Bool) (a0_12 : ByteArray) (a0_13 : Bool) (a0_14 : ByteArray) (l0_15 : List ByteArray) (l0_16 : List ByteArray) (a1_0 : Bool) (a1_1 : ByteArray) (l1_2 : List S23) (a1_3 : Bool) (a1_4 : ByteArray) (a1_5 : Bool) (a1_6 : ByteArray) (a1_7 : Bool) (a1_8 : ByteArray) (a1_9 : Bool) (a1_10 : ByteArray) (a1_11 : Bool) (a1_12 : ByteArray) (a1_13 : Bool) (a1_14 : ByteArray) (l1_15 : List ByteArray) (l1_16 : List ByteArray), l0_2.length ≤ 9223372036854775807 → l0_15.length ≤ 9223372036854775807 → l0_16.length ≤ 9223372036854775807 → l1_2.length ≤ 9223372036854775807 → l1_15.length ≤ 9223372036854775807 → l1_16.length ≤ 9223372036854775807 → ∃ k, laws_FnPyPI.f k a0_0 a0_1 l0_2 a0_3 a0_4 a0_5 a0_6 a0_7 a0_8 a0_9 a0_10 a0_11 a0_12 a0_13 a0_14 l0_15 l0_16 a1_0 a1_1 l1_2 a1_3 a1_4 a1_5 a1_6 a1_7 a1_8 a1_9 a1_10 a1_11 a1_12 a1_13 a1_14 l1_15 l1_16 = some true
theorem pl_C2 {W : World} {g : Nat} {t : TypeId} {x y : S29} {c0 c1 : List Value} (h : W.heap[g]? = some (.cells (c0 ++ c1).toArray t (0, 0))) (h0 : k29.K W x c0) (h1 : k29.K W y c1) (l0 : c0.length = 17) (l1 : c1.length = 17) : Kd.C k29 W (some ⟨g, 0, none⟩) 2 [x, y] := by
 refine ⟨rfl, by decide, fun _ => ⟨_, rfl, fun j p hp => ?_⟩⟩
 have rng := py_rng h
 have at_ : ∀ (m i : Nat) (u : Value), (c0 ++ c1)[m + i]? = some u → W.cell? ((⟨g, 0, none⟩ : Addr).add (m + i)) = some u := by
  intro m i u hu
  have e : (⟨g, 0, none⟩ : Addr).add (m + i) = ⟨g, 0 + (m + i), none⟩ := by rw [Addr.add_mid]
  rw [e]
  exact rng (m + i) u hu
 rcases j with _ | _ | j
 ·cases hp
  refine ⟨c0, l0, h0, fun i u hu => at_ (0 * 17) i u ?_⟩
  rw [Nat.zero_mul, Nat.zero_add, List.getElem?_append_left (List.getElem?_eq_some_iff.1 hu).1]
  exact hu
 ·cases hp
  refine ⟨c1, l1, h1, fun i u hu => at_ ((0 + 1) * 17) i u ?_⟩
  rw [List.getElem?_append_right (by omega), show (0 + 1) * 17 + i - c0.length = i by omega]
  exact hu
 ·simp at hp
set_option maxRecDepth 100000 in
set_option maxHeartbeats 8000000 in
theorem laws_FnPyPI.walk (P : laws_FnPyPI.Pure) (a0_0 : Bool) (a0_1 : ByteArray) (A0_2 : Option Addr) (c0_2 : Nat) (l0_2 : List S23) (a0_3 : Bool) (a0_4 : ByteArray) (a0_5 : Bool) (a0_6 : ByteArray) (a0_7 : Bool) (a0_8 : ByteArray) (a0_9 : Bool) (a0_10 : ByteArray) (a0_11 : Bool) (a0_12 : ByteArray) (a0_13 : Bool) (a0_14 : ByteArray) (A0_15 : Option Addr) (c0_15 : Nat) (l0_15 : List ByteArray) (A0_16 : Option Addr) (c0_16 : Nat) (l0_16 : List ByteArray) (a1_0 : Bool) (a1_1 : ByteArray) (A1_2 : Option Addr) (c1_2 : Nat) (l1_2 : List S23) (a1_3 : Bool) (a1_4 : ByteArray) (a1_5 : Bool) (a1_6 : ByteArray) (a1_7 : Bool) (a1_8 : ByteArray) (a1_9 : Bool) (a1_10 : ByteArray) (a1_11 : Bool) (a1_12 : ByteArray) (a1_13 : Bool) (a1_14 : ByteArray) (A1_15 : Option Addr) (c1_15 : Nat) (l1_15 : List ByteArray) (A1_16 : Option Addr) (c1_16 : Nat) (l1_16 : List ByteArray) (w : World) (hm0_2 : l0_2.length ≤ 9223372036854775807) (hm0_15 : l0_15.length ≤ 9223372036854775807) (hm0_16 : l0_16.length ≤ 9223372036854775807) (hm1_2 : l1_2.length ≤ 9223372036854775807) (hm1_15 : l1_15.length ≤ 9223372036854775807) (hm1_16 : l1_16.length ≤ 9223372036854775807) (hr0_2 : Kd.C k23 w A0_2 l0_2.length l0_2) (hc0_2 : l0_2.length ≤ c0_2) (hr0_15 : Kd.C Kd.string w A0_15 l0_15.length l0_15) (hc0_15 : l0_15.length ≤ c0_15) (hr0_16 : Kd.C Kd.string w A0_16 l0_16.length l0_16) (hc0_16 : l0_16.length ≤ c0_16) (hr1_2 : Kd.C k23 w A1_2 l1_2.length l1_2) (hc1_2 : l1_2.length ≤ c1_2) (hr1_15 : Kd.C Kd.string w A1_15 l1_15.length l1_15) (hc1_15 : l1_15.length ≤ c1_15) (hr1_16 : Kd.C Kd.string w A1_16 l1_16.length l1_16) (hc1_16 : l1_16.length ≤ c1_16) (hG : GW w) :
  Calls Tryz.prog 3 #[.agg #[.bool a0_0, .string a0_1, .slice A0_2 l0_2.length c0_2, .bool a0_3, .string a0_4, .bool a0_5, .string a0_6, .bool a0_7, .string a0_8, .bool a0_9, .string a0_10, .bool a0_11, .string a0_12, .bool a0_13, .string a0_14, .slice A0_15 l0_15.length c0_15, .slice A0_16 l0_16.length c0_16], .agg #[.bool a1_0, .string a1_1, .slice A1_2 l1_2.length c1_2, .bool a1_3, .string a1_4, .bool a1_5, .string a1_6, .bool a1_7, .string a1_8, .bool a1_9, .string a1_10, .bool a1_11, .string a1_12, .bool a1_13, .string a1_14, .slice A1_15 l1_15.length c1_15, .slice A1_16 l1_16.length c1_16]] w fun e w' => e = .returned (.bool true) ∧ Below w.heap.size w w' := by
 obtain ⟨k, h⟩ := P a0_0 a0_1 l0_2 a0_3 a0_4 a0_5 a0_6 a0_7 a0_8 a0_9 a0_10 a0_11 a0_12 a0_13 a0_14 l0_15 l0_16 a1_0 a1_1 l1_2 a1_3 a1_4 a1_5 a1_6 a1_7 a1_8 a1_9 a1_10 a1_11 a1_12 a1_13 a1_14 l1_15 l1_16 hm0_2 hm0_15 hm0_16 hm1_2 hm1_15 hm1_16
 unfold laws_FnPyPI.f at h
 obtain ⟨a, h1, h2⟩ := Option.bind_eq_some_iff.1 h
 clear h
 have K1 : Aside0 (∀ W, Below w.heap.size w W → Calls Tryz.prog 5 #[.agg #[.bool a0_0, .string a0_1, .slice A0_2 l0_2.length c0_2, .bool a0_3, .string a0_4, .bool a0_5, .string a0_6, .bool a0_7, .string a0_8, .bool a0_9, .string a0_10, .bool a0_11, .string a0_12, .bool a0_13, .string a0_14, .slice A0_15 l0_15.length c0_15, .slice A0_16 l0_16.length c0_16]] W fun e w' => e = .returned (.bool a) ∧ Below W.heap.size W w') := ⟨fun W hB => laws_zzFits12.calls k a0_0 a0_1 A0_2 c0_2 l0_2 a0_3 a0_4 a0_5 a0_6 a0_7 a0_8 a0_9 a0_10 a0_11 a0_12 a0_13 a0_14 A0_15 c0_15 l0_15 A0_16 c0_16 l0_16 a W (Kd.C_below hr0_2 hB) hc0_2 (Kd.C_below hr0_15 hB) hc0_15 (Kd.C_below hr0_16 hB) hc0_16 h1⟩
 obtain ⟨n0_2, hn0_2⟩ : ∃ n, n = l0_2.length := ⟨_, rfl⟩
 obtain ⟨n0_15, hn0_15⟩ : ∃ n, n = l0_15.length := ⟨_, rfl⟩
 obtain ⟨n0_16, hn0_16⟩ : ∃ n, n = l0_16.length := ⟨_, rfl⟩
 obtain ⟨n1_2, hn1_2⟩ : ∃ n, n = l1_2.length := ⟨_, rfl⟩
 obtain ⟨n1_15, hn1_15⟩ : ∃ n, n = l1_15.length := ⟨_, rfl⟩
 obtain ⟨n1_16, hn1_16⟩ : ∃ n, n = l1_16.length := ⟨_, rfl⟩
 rw [← hn0_2, ← hn0_15, ← hn0_16] at K1
 rw [← hn0_2, ← hn0_15, ← hn0_16, ← hn1_2, ← hn1_15, ← hn1_16]
 have HHR := Aside0.mk (And.intro (And.intro (And.intro hr0_2 hc0_2) (And.intro (And.intro hr0_15 hc0_15) (And.intro (And.intro hr0_16 hc0_16) (And.intro (And.intro hr1_2 hc1_2) (And.intro (And.intro hr1_15 hc1_15) (And.intro hr1_16 hc1_16)))))) (And.intro hn0_2 (And.intro hn0_15 (And.intro hn0_16 (And.intro hn1_2 (And.intro hn1_15 hn1_16))))))
 have HH1 := Aside0.mk h2
 clear h2 h1 hr0_2 hc0_2 hn0_2 hm0_2 hr0_15 hc0_15 hn0_15 hm0_15 hr0_16 hc0_16 hn0_16 hm0_16 hr1_2 hc1_2 hn1_2 hm1_2 hr1_15 hc1_15 hn1_15 hm1_15 hr1_16 hc1_16 hn1_16 hm1_16
 obtain ⟨WA, hWA⟩ : ∃ WA : World, WA = (w.alloc (.cells #[.bool a0_0, .string a0_1, .slice A0_2 n0_2 c0_2, .bool a0_3, .string a0_4, .bool a0_5, .string a0_6, .bool a0_7, .string a0_8, .bool a0_9, .string a0_10, .bool a0_11, .string a0_12, .bool a0_13, .string a0_14, .slice A0_15 n0_15 c0_15, .slice A0_16 n0_16 c0_16] 29)).alloc (.cells #[.bool a1_0, .string a1_1, .slice A1_2 n1_2 c1_2, .bool a1_3, .string a1_4, .bool a1_5, .string a1_6, .bool a1_7, .string a1_8, .bool a1_9, .string a1_10, .bool a1_11, .string a1_12, .bool a1_13, .string a1_14, .slice A1_15 n1_15 c1_15, .slice A1_16 n1_16 c1_16] 29) := ⟨_, rfl⟩
 have hs1 : (w.alloc (.cells #[.bool a0_0, .string a0_1, .slice A0_2 n0_2 c0_2, .bool a0_3, .string a0_4, .bool a0_5, .string a0_6, .bool a0_7, .string a0_8, .bool a0_9, .string a0_10, .bool a0_11, .string a0_12, .bool a0_13, .string a0_14, .slice A0_15 n0_15 c0_15, .slice A0_16 n0_16 c0_16] 29)).heap.size = w.heap.size + 1 := by simp
 have c98 : WA.heap[w.heap.size]? = some (.cells [.bool a0_0, .string a0_1, .slice A0_2 n0_2 c0_2, .bool a0_3, .string a0_4, .bool a0_5, .string a0_6, .bool a0_7, .string a0_8, .bool a0_9, .string a0_10, .bool a0_11, .string a0_12, .bool a0_13, .string a0_14, .slice A0_15 n0_15 c0_15, .slice A0_16 n0_16 c0_16].toArray 29 (0, 0)) := by rw [hWA]; exact blk_alloc (blk_new w _) _
 have c97 : WA.heap[w.heap.size + 1]? = some (.cells [.bool a1_0, .string a1_1, .slice A1_2 n1_2 c1_2, .bool a1_3, .string a1_4, .bool a1_5, .string a1_6, .bool a1_7, .string a1_8, .bool a1_9, .string a1_10, .bool a1_11, .string a1_12, .bool a1_13, .string a1_14, .slice A1_15 n1_15 c1_15, .slice A1_16 n1_16 c1_16].toArray 29 (0, 0)) := by
  have := blk_new (w.alloc (.cells #[.bool a0_0, .string a0_1, .slice A0_2 n0_2 c0_2, .bool a0_3, .string a0_4, .bool a0_5, .string a0_6, .bool a0_7, .string a0_8, .bool a0_9, .string a0_10, .bool a0_11, .string a0_12, .bool a0_13, .string a0_14, .slice A0_15 n0_15 c0_15, .slice A0_16 n0_16 c0_16] 29)) (.cells #[.bool a1_0, .string a1_1, .slice A1_2 n1_2 c1_2, .bool a1_3, .string a1_4, .bool a1_5, .string a1_6, .bool a1_7, .string a1_8, .bool a1_9, .string a1_10, .bool a1_11, .string a1_12, .bool a1_13, .string a1_14, .slice A1_15 n1_15 c1_15, .slice A1_16 n1_16 c1_16] 29)
  rw [hs1] at this
  rw [hWA]
  exact this
 have BA : Aside0 (Below w.heap.size w WA) := ⟨by rw [hWA]; exact ((Below.refl _ w).alloc (Nat.le_refl _) _).alloc (by simp) _⟩
 have Q0 : Aside0 (∀ W, Below WA.heap.size WA W → ∀ j v, [.bool a0_0, .string a0_1, .slice A0_2 n0_2 c0_2, .bool a0_3, .string a0_4, .bool a0_5, .string a0_6, .bool a0_7, .string a0_8, .bool a0_9, .string a0_10, .bool a0_11, .string a0_12, .bool a0_13, .string a0_14, .slice A0_15 n0_15 c0_15, .slice A0_16 n0_16 c0_16][j]? = some v → W.cell? ((⟨w.heap.size, 0, none⟩ : Addr).add j) = some v) := ⟨fun W hB j v hv => by rw [Addr.add_mid]; exact py_rng (pl_keep hB c98) j v hv⟩
 have Q1 : Aside0 (∀ W, Below WA.heap.size WA W → ∀ j v, [.bool a1_0, .string a1_1, .slice A1_2 n1_2 c1_2, .bool a1_3, .string a1_4, .bool a1_5, .string a1_6, .bool a1_7, .string a1_8, .bool a1_9, .string a1_10, .bool a1_11, .string a1_12, .bool a1_13, .string a1_14, .slice A1_15 n1_15 c1_15, .slice A1_16 n1_16 c1_16][j]? = some v → W.cell? ((⟨w.heap.size + 1, 0, none⟩ : Addr).add j) = some v) := ⟨fun W hB j v hv => by rw [Addr.add_mid]; exact py_rng (pl_keep hB c97) j v hv⟩
 have HWA := Aside0.mk hWA
 clear hWA hs1 c98 c97
 have hu := Tryz.underlying29
 go_enter Tryz.func3, Tryz.ntmps3
 go_upto_region 1 with fail
 rw [← HWA.out]
 clear HWA
 have C0 : Aside0 (Below WA.heap.size WA WA) := ⟨Below.refl _ _⟩
 have K1 := Aside0.mk (K1.out WA BA.out)
 go_wp2_with (first | ((with_reducible refine gate_dst (N := 6) rfl ?_); refine py_load rfl 29 (.tmp 2) rfl ⟨w.heap.size, 0, none⟩ rfl _ _ (Q0.out _ C0.out) hu rfl py_info ?_) | (go_at_call 5; (with_reducible refine (K1.out).mono ?_)))
 rintro e W1 ⟨rfl, hB⟩
 have C1 : Aside0 (Below WA.heap.size WA W1) := ⟨pl_next C0.out hB⟩
 clear hB C0 K1
 cases a with
 | false =>
  clear HH1 HHR Q0 Q1 hu
  go_wp2
  go_ret
  exact ⟨rfl, pl_next BA.out C1.out⟩
 | true =>
  have h := HH1.out
  rw [if_pos rfl] at h
  obtain ⟨b, h1, h2⟩ := Option.bind_eq_some_iff.1 h
  have HH2 := Aside0.mk h2
  clear h h2 HH1
  have K2 : Aside0 (∀ W, Below w.heap.size w W → Calls Tryz.prog 5 #[.agg #[.bool a1_0, .string a1_1, .slice A1_2 n1_2 c1_2, .bool a1_3, .string a1_4, .bool a1_5, .string a1_6, .bool a1_7, .string a1_8, .bool a1_9, .string a1_10, .bool a1_11, .string a1_12, .bool a1_13, .string a1_14, .slice A1_15 n1_15 c1_15, .slice A1_16 n1_16 c1_16]] W fun e w' => e = .returned (.bool b) ∧ Below W.heap.size W w') := ⟨fun W hB => by
   obtain ⟨⟨⟨hr0_2, hc0_2⟩, ⟨hr0_15, hc0_15⟩, ⟨hr0_16, hc0_16⟩, ⟨hr1_2, hc1_2⟩, ⟨hr1_15, hc1_15⟩, ⟨hr1_16, hc1_16⟩⟩, hn0_2, hn0_15, hn0_16, hn1_2, hn1_15, hn1_16⟩ := HHR.out
   have := laws_zzFits12.calls k a1_0 a1_1 A1_2 c1_2 l1_2 a1_3 a1_4 a1_5 a1_6 a1_7 a1_8 a1_9 a1_10 a1_11 a1_12 a1_13 a1_14 A1_15 c1_15 l1_15 A1_16 c1_16 l1_16 b W (Kd.C_below hr1_2 hB) hc1_2 (Kd.C_below hr1_15 hB) hc1_15 (Kd.C_below hr1_16 hB) hc1_16 h1
   simp only [← hn0_2, ← hn0_15, ← hn0_16, ← hn1_2, ← hn1_15, ← hn1_16] at this
   exact this⟩
  have K2 := Aside0.mk (K2.out W1 (pl_next BA.out C1.out))
  clear h1
  go_wp2_with (first | ((with_reducible refine gate_dst (N := 10) rfl ?_); refine gate_guard (by rfl) ?_; refine py_load rfl 29 (.tmp 3) rfl ⟨w.heap.size + 1, 0, none⟩ rfl _ _ (Q1.out _ C1.out) hu rfl py_info ?_) | (go_at_call 5; (with_reducible refine (K2.out).mono ?_)))
  rintro e W2 ⟨rfl, hB⟩
  have C2 : Aside0 (Below WA.heap.size WA W2) := ⟨pl_next C1.out hB⟩
  clear hB C1 K2
  cases b with
  | false =>
   clear HH2 HHR Q0 Q1 hu
   go_wp2
   go_ret
   exact ⟨rfl, pl_next BA.out C2.out⟩
  | true =>
   have h := HH2.out
   rw [if_pos rfl] at h
   obtain ⟨c, h1, h2⟩ := Option.bind_eq_some_iff.1 h
   have HH3 := Aside0.mk h2
   clear h h2 HH2
   have K3 : Aside0 (∀ W, Below w.heap.size w W → Calls Tryz.prog 6 #[.slice (some ⟨W.heap.size, 0, none⟩) 2 2] (W.alloc (.cells #[.bool a0_0, .string a0_1, .slice A0_2 n0_2 c0_2, .bool a0_3, .string a0_4, .bool a0_5, .string a0_6, .bool a0_7, .string a0_8, .bool a0_9, .string a0_10, .bool a0_11, .string a0_12, .bool a0_13, .string a0_14, .slice A0_15 n0_15 c0_15, .slice A0_16 n0_16 c0_16, .bool a1_0, .string a1_1, .slice A1_2 n1_2 c1_2, .bool a1_3, .string a1_4, .bool a1_5, .string a1_6, .bool a1_7, .string a1_8, .bool a1_9, .string a1_10, .bool a1_11, .string a1_12, .bool a1_13, .string a1_14, .slice A1_15 n1_15 c1_15, .slice A1_16 n1_16 c1_16] 29)) fun e w' => e = .returned (.bool c) ∧ Below W.heap.size W w') := ⟨fun W hB => by
    obtain ⟨⟨⟨hr0_2, hc0_2⟩, ⟨hr0_15, hc0_15⟩, ⟨hr0_16, hc0_16⟩, ⟨hr1_2, hc1_2⟩, ⟨hr1_15, hc1_15⟩, ⟨hr1_16, hc1_16⟩⟩, hn0_2, hn0_15, hn0_16, hn1_2, hn1_15, hn1_16⟩ := HHR.out
    rw [hn0_2, hn0_15, hn0_16, hn1_2, hn1_15, hn1_16]
    exact (laws_pypi.calls k (some ⟨W.heap.size, 0, none⟩) 2 [(⟨⟨a0_0, a0_1⟩, l0_2, ⟨a0_3, a0_4, ⟨a0_5, a0_6⟩⟩, ⟨a0_7, a0_8, ⟨a0_9, a0_10⟩⟩, ⟨a0_11, a0_12, ⟨a0_13, a0_14⟩⟩, l0_15, l0_16⟩ : S29), (⟨⟨a1_0, a1_1⟩, l1_2, ⟨a1_3, a1_4, ⟨a1_5, a1_6⟩⟩, ⟨a1_7, a1_8, ⟨a1_9, a1_10⟩⟩, ⟨a1_11, a1_12, ⟨a1_13, a1_14⟩⟩, l1_15, l1_16⟩ : S29)] c _ (pl_C2 (c0 := [.bool a0_0, .string a0_1, .slice A0_2 l0_2.length c0_2, .bool a0_3, .string a0_4, .bool a0_5, .string a0_6, .bool a0_7, .string a0_8, .bool a0_9, .string a0_10, .bool a0_11, .string a0_12, .bool a0_13, .string a0_14, .slice A0_15 l0_15.length c0_15, .slice A0_16 l0_16.length c0_16]) (c1 := [.bool a1_0, .string a1_1, .slice A1_2 l1_2.length c1_2, .bool a1_3, .string a1_4, .bool a1_5, .string a1_6, .bool a1_7, .string a1_8, .bool a1_9, .string a1_10, .bool a1_11, .string a1_12, .bool a1_13, .string a1_14, .slice A1_15 l1_15.length c1_15, .slice A1_16 l1_16.length c1_16]) (blk_new W _) (k29_mk _ (⟨⟨a0_0, a0_1⟩, l0_2, ⟨a0_3, a0_4, ⟨a0_5, a0_6⟩⟩, ⟨a0_7, a0_8, ⟨a0_9, a0_10⟩⟩, ⟨a0_11, a0_12, ⟨a0_13, a0_14⟩⟩, l0_15, l0_16⟩ : S29) hc0_2 (Kd.C_below hr0_2 (hB.alloc hB.size _)) hc0_15 (Kd.C_below hr0_15 (hB.alloc hB.size _)) hc0_16 (Kd.C_below hr0_16 (hB.alloc hB.size _))) (k29_mk _ (⟨⟨a1_0, a1_1⟩, l1_2, ⟨a1_3, a1_4, ⟨a1_5, a1_6⟩⟩, ⟨a1_7, a1_8, ⟨a1_9, a1_10⟩⟩, ⟨a1_11, a1_12, ⟨a1_13, a1_14⟩⟩, l1_15, l1_16⟩ : S29) hc1_2 (Kd.C_below hr1_2 (hB.alloc hB.size _)) hc1_15 (Kd.C_below hr1_15 (hB.alloc hB.size _)) hc1_16 (Kd.C_below hr1_16 (hB.alloc hB.size _))) rfl rfl) (Nat.le_refl _) h1).mono fun e w' h => ⟨h.1, ((Below.refl _ _).alloc (Nat.le_refl _) _).trans (h.2.mono (by simp))⟩⟩
   have K3 := Aside0.mk (K3.out W2 (pl_next BA.out C2.out))
   clear h1
   go_wp2_with (first | ((with_reducible refine gate_dst (N := 14) rfl ?_); refine py_load rfl 29 (.tmp 2) rfl ⟨w.heap.size, 0, none⟩ rfl _ _ (Q0.out _ C2.out) hu rfl py_info ?_) | ((with_reducible refine gate_dst (N := 15) rfl ?_); refine py_load rfl 29 (.tmp 3) rfl ⟨w.heap.size + 1, 0, none⟩ rfl _ _ (Q1.out _ C2.out) hu rfl py_info ?_) | (go_at_call 6; (with_reducible refine (K3.out).mono ?_)))
   rintro e W3 ⟨rfl, hB⟩
   have C3 : Aside0 (Below WA.heap.size WA W3) := ⟨pl_next C2.out hB⟩
   clear hB C2 K3
   cases c with
   | false =>
    clear HH3 HHR Q0 Q1 hu
    go_wp2
    go_ret
    exact ⟨rfl, pl_next BA.out C3.out⟩
   | true =>
    have h := HH3.out
    rw [if_pos rfl] at h
    obtain ⟨r, h1, h2⟩ := Option.bind_eq_some_iff.1 h
    have HH4 := Aside0.mk h2
    clear h h2 HH3
    have K4 : Aside0 (∀ W, Below w.heap.size w W → Calls Tryz.prog 7 #[.agg #[.bool a0_0, .string a0_1, .slice A0_2 n0_2 c0_2, .bool a0_3, .string a0_4, .bool a0_5, .string a0_6, .bool a0_7, .string a0_8, .bool a0_9, .string a0_10, .bool a0_11, .string a0_12, .bool a0_13, .string a0_14, .slice A0_15 n0_15 c0_15, .slice A0_16 n0_16 c0_16], .agg #[.bool a1_0, .string a1_1, .slice A1_2 n1_2 c1_2, .bool a1_3, .string a1_4, .bool a1_5, .string a1_6, .bool a1_7, .string a1_8, .bool a1_9, .string a1_10, .bool a1_11, .string a1_12, .bool a1_13, .string a1_14, .slice A1_15 n1_15 c1_15, .slice A1_16 n1_16 c1_16]] W fun e w' => e = .returned (.int .i64 r) ∧ Below W.heap.size W w') := ⟨fun W hB => by
     obtain ⟨⟨⟨hr0_2, hc0_2⟩, ⟨hr0_15, hc0_15⟩, ⟨hr0_16, hc0_16⟩, ⟨hr1_2, hc1_2⟩, ⟨hr1_15, hc1_15⟩, ⟨hr1_16, hc1_16⟩⟩, hn0_2, hn0_15, hn0_16, hn1_2, hn1_15, hn1_16⟩ := HHR.out
     have := impl_PyPICompare.calls k a0_0 a0_1 A0_2 c0_2 l0_2 a0_3 a0_4 a0_5 a0_6 a0_7 a0_8 a0_9 a0_10 a0_11 a0_12 a0_13 a0_14 A0_15 c0_15 l0_15 A0_16 c0_16 l0_16 a1_0 a1_1 A1_2 c1_2 l1_2 a1_3 a1_4 a1_5 a1_6 a1_7 a1_8 a1_9 a1_10 a1_11 a1_12 a1_13 a1_14 A1_15 c1_15 l1_15 A1_16 c1_16 l1_16 r W (Kd.C_below hr0_2 hB) hc0_2 (Kd.C_below hr0_15 hB) hc0_15 (Kd.C_below hr0_16 hB) hc0_16 (Kd.C_below hr1_2 hB) hc1_2 (Kd.C_below hr1_15 hB) hc1_15 (Kd.C_below hr1_16 hB) hc1_16 (GW.below hG hB) h1
     simp only [← hn0_2, ← hn0_15, ← hn0_16, ← hn1_2, ← hn1_15, ← hn1_16] at this
     exact this⟩
    have K4 := Aside0.mk (K4.out W3 (pl_next BA.out C3.out))
    clear h1
    go_wp2_with (first | ((with_reducible refine gate_dst (N := 19) rfl ?_); refine py_load rfl 29 (.tmp 2) rfl ⟨w.heap.size, 0, none⟩ rfl _ _ (Q0.out _ C3.out) hu rfl py_info ?_) | ((with_reducible refine gate_dst (N := 20) rfl ?_); refine py_load rfl 29 (.tmp 3) rfl ⟨w.heap.size + 1, 0, none⟩ rfl _ _ (Q1.out _ C3.out) hu rfl py_info ?_) | (go_at_call 7; (with_reducible refine (K4.out).mono ?_)))
    rintro e W4 ⟨rfl, hB⟩
    have C4 : Aside0 (Below WA.heap.size WA W4) := ⟨pl_next C3.out hB⟩
    clear hB C3 K4
    obtain ⟨s, h1, h2⟩ := Option.bind_eq_some_iff.1 HH4.out
    have hrs : s = r := Classical.byContradiction fun hne => by
     rw [if_neg (fun e => hne e.symm)] at h2
     cases h2
    rw [if_pos hrs.symm] at h2
    rw [hrs] at h1
    clear hrs
    have HH5 := Aside0.mk h2
    clear h2 HH4
    have K5 : Aside0 (∀ W, Below w.heap.size w W → Calls Tryz.prog 8 #[.agg #[.bool a0_0, .string a0_1, .slice A0_2 n0_2 c0_2, .bool a0_3, .string a0_4, .bool a0_5, .string a0_6, .bool a0_7, .string a0_8, .bool a0_9, .string a0_10, .bool a0_11, .string a0_12, .bool a0_13, .string a0_14, .slice A0_15 n0_15 c0_15, .slice A0_16 n0_16 c0_16], .agg #[.bool a1_0, .string a1_1, .slice A1_2 n1_2 c1_2, .bool a1_3, .string a1_4, .bool a1_5, .string a1_6, .bool a1_7, .string a1_8, .bool a1_9, .string a1_10, .bool a1_11, .string a1_12, .bool a1_13, .string a1_14, .slice A1_15 n1_15 c1_15, .slice A1_16 n1_16 c1_16]] W fun e w' => e = .returned (.int .i64 r) ∧ Below W.heap.size W w') := ⟨fun W hB => by
     obtain ⟨⟨⟨hr0_2, hc0_2⟩, ⟨hr0_15, hc0_15⟩, ⟨hr0_16, hc0_16⟩, ⟨hr1_2, hc1_2⟩, ⟨hr1_15, hc1_15⟩, ⟨hr1_16, hc1_16⟩⟩, hn0_2, hn0_15, hn0_16, hn1_2, hn1_15, hn1_16⟩ := HHR.out
     have := spec_PyPICompare.calls k a0_0 a0_1 A0_2 c0_2 l0_2 a0_3 a0_4 a0_5 a0_6 a0_7 a0_8 a0_9 a0_10 a0_11 a0_12 a0_13 a0_14 A0_15 c0_15 l0_15 A0_16 c0_16 l0_16 a1_0 a1_1 A1_2 c1_2 l1_2 a1_3 a1_4 a1_5 a1_6 a1_7 a1_8 a1_9 a1_10 a1_11 a1_12 a1_13 a1_14 A1_15 c1_15 l1_15 A1_16 c1_16 l1_16 r W (Kd.C_below hr0_2 hB) hc0_2 (Kd.C_below hr0_15 hB) hc0_15 (Kd.C_below hr0_16 hB) hc0_16 (Kd.C_below hr1_2 hB) hc1_2 (Kd.C_below hr1_15 hB) hc1_15 (Kd.C_below hr1_16 hB) hc1_16 h1
     simp only [← hn0_2, ← hn0_15, ← hn0_16, ← hn1_2, ← hn1_15, ← hn1_16] at this
     exact this⟩
    have K5 := Aside0.mk (K5.out W4 (pl_next BA.out C4.out))
    clear h1
    go_wp2_with (first | ((with_reducible refine gate_dst (N := 23) rfl ?_); refine py_load rfl 29 (.tmp 2) rfl ⟨w.heap.size, 0, none⟩ rfl _ _ (Q0.out _ C4.out) hu rfl py_info ?_) | ((with_reducible refine gate_dst (N := 24) rfl ?_); refine py_load rfl 29 (.tmp 3) rfl ⟨w.heap.size + 1, 0, none⟩ rfl _ _ (Q1.out _ C4.out) hu rfl py_info ?_) | (go_at_call 8; (with_reducible refine (K5.out).mono ?_)))
    rintro e W5 ⟨rfl, hB⟩
    have C5 : Aside0 (Below WA.heap.size WA W5) := ⟨pl_next C4.out hB⟩
    clear hB C4 K5
    obtain ⟨q, h1, h2⟩ := Option.bind_eq_some_iff.1 HH5.out
    have HH6 := Aside0.mk h2
    clear h2 HH5
    have K6 : Aside0 (∀ W, Below w.heap.size w W → Calls Tryz.prog 7 #[.agg #[.bool a1_0, .string a1_1, .slice A1_2 n1_2 c1_2, .bool a1_3, .string a1_4, .bool a1_5, .string a1_6, .bool a1_7, .string a1_8, .bool a1_9, .string a1_10, .bool a1_11, .string a1_12, .bool a1_13, .string a1_14, .slice A1_15 n1_15 c1_15, .slice A1_16 n1_16 c1_16], .agg #[.bool a0_0, .string a0_1, .slice A0_2 n0_2 c0_2, .bool a0_3, .string a0_4, .bool a0_5, .string a0_6, .bool a0_7, .string a0_8, .bool a0_9, .string a0_10, .bool a0_11, .string a0_12, .bool a0_13, .string a0_14, .slice A0_15 n0_15 c0_15, .slice A0_16 n0_16 c0_16]] W fun e w' => e = .returned (.int .i64 q) ∧ Below W.heap.size W w') := ⟨fun W hB => by
     obtain ⟨⟨⟨hr0_2, hc0_2⟩, ⟨hr0_15, hc0_15⟩, ⟨hr0_16, hc0_16⟩, ⟨hr1_2, hc1_2⟩, ⟨hr1_15, hc1_15⟩, ⟨hr1_16, hc1_16⟩⟩, hn0_2, hn0_15, hn0_16, hn1_2, hn1_15, hn1_16⟩ := HHR.out
     have := impl_PyPICompare.calls k a1_0 a1_1 A1_2 c1_2 l1_2 a1_3 a1_4 a1_5 a1_6 a1_7 a1_8 a1_9 a1_10 a1_11 a1_12 a1_13 a1_14 A1_15 c1_15 l1_15 A1_16 c1_16 l1_16 a0_0 a0_1 A0_2 c0_2 l0_2 a0_3 a0_4 a0_5 a0_6 a0_7 a0_8 a0_9 a0_10 a0_11 a0_12 a0_13 a0_14 A0_15 c0_15 l0_15 A0_16 c0_16 l0_16 q W (Kd.C_below hr1_2 hB) hc1_2 (Kd.C_below hr1_15 hB) hc1_15 (Kd.C_below hr1_16 hB) hc1_16 (Kd.C_below hr0_2 hB) hc0_2 (Kd.C_below hr0_15 hB) hc0_15 (Kd.C_below hr0_16 hB) hc0_16 (GW.below hG hB) h1
     simp only [← hn0_2, ← hn0_15, ← hn0_16, ← hn1_2, ← hn1_15, ← hn1_16] at this
     exact this⟩
    have K6 := Aside0.mk (K6.out W5 (pl_next BA.out C5.out))
    clear h1
    go_wp2_with (first | ((with_reducible refine gate_dst (N := 29) rfl ?_); refine gate_guard (by rfl) ?_; refine py_load rfl 29 (.tmp 3) rfl ⟨w.heap.size + 1, 0, none⟩ rfl _ _ (Q1.out _ C5.out) hu rfl py_info ?_) | ((with_reducible refine gate_dst (N := 30) rfl ?_); refine gate_guard (by rfl) ?_; refine py_load rfl 29 (.tmp 2) rfl ⟨w.heap.size, 0, none⟩ rfl _ _ (Q0.out _ C5.out) hu rfl py_info ?_) | (go_at_call 7; (with_reducible refine (K6.out).mono ?_)))
    rintro e W6 ⟨rfl, hB⟩
    have C6 : Aside0 (Below WA.heap.size WA W6) := ⟨pl_next C5.out hB⟩
    clear hB C5 K6
    have K7 : Aside0 (Calls Tryz.prog 9 #[.int .i64 r, .int .i64 q] W6 fun e w' => e = .returned (.bool true) ∧ Below W6.heap.size W6 w') := ⟨(laws_turned.calls r q true W6 HH6.out).mono fun e w' h => ⟨h.1, pl_drawn h.2⟩⟩
    clear HH6 HHR Q0 Q1
    go_wp2_with (first | (go_at_call 9; (with_reducible refine (K7.out).mono ?_)))
    rintro e W7 ⟨rfl, hB⟩
    have C7 : Aside0 (Below WA.heap.size WA W7) := ⟨pl_next C6.out hB⟩
    clear hB C6 K7
    go_wp2
    go_ret
    exact ⟨rfl, pl_next BA.out C7.out⟩

end Go.Proofs.YtipfmkfpaglkkaaGreatDoor.Z
