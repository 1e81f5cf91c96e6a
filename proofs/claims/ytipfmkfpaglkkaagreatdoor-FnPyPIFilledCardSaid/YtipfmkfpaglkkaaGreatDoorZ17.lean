-- Written by a program of this session (myprint.py).
import Derived.Test.YtipfmkfpaglkkaaGreatDoorZ0
import Derived.Test.YtipfmkfpaglkkaaGreatDoorZ2
import Derived.Test.YtipfmkfpaglkkaaGreatDoorZ5
import Derived.Test.YtipfmkfpaglkkaaGreatDoorZ14
import Derived.Test.YtipfmkfpaglkkaaGreatDoorZ15
import Derived.Test.YtipfmkfpaglkkaaGreatDoorZ16
import Derived.Deep.MidRow
import Derived.Deep.RegionHeld3
import Derived.Test.YtipfmkfpaglkkaaGreatDoorWW
import Derived.Test.YtipfmkfpaglkkaaGreatDoorGe
namespace Go.Proofs.YtipfmkfpaglkkaaGreatDoor.Z
open Go.Proofs.YtipfmkfpaglkkaaGreatDoor.Gw
open Go.RowKit Go.Proofs.YtipfmkfpaglkkaaGreatDoorW.PrintWords Go.Proofs.YtipfmkfpaglkkaaGreatDoorW.PrintLast Go.Proofs.YtipfmkfpaglkkaaGreatDoorW.PrintMore
attribute [local go_sem high] Go.Proofs.YtipfmkfpaglkkaaGreatDoor.Ge.gtr_str
attribute [local go_sem] max2_int min2_int max_two min_two max_three min_three max_four min_four   -- for this text's walks alone
set_option linter.unusedVariables false
set_option linter.unusedSimpArgs false

-- PLUGGED laws_FnPyPIFilled: function 4 (a text of this session)
theorem pl_C2 {W : World} {g : Nat} {t : TypeId} {x y : S29} {c0 c1 : List Value} (h : W.heap[g]? = some (.cells (c0 ++ c1).toArray t (0, 0))) (h0 : k29.K W x c0) (h1 : k29.K W y c1) (l0 : c0.length = 17) (l1 : c1.length = 17) : Kd.C k29 W (some ⟨g, 0, none⟩) 2 [x, y] := by
 refine ⟨rfl, by decide, fun _ => ⟨_, rfl, fun j p hp => ?_⟩⟩
 have rng := py_rng h
 have at_ : ∀ (m i : Nat) (u : Value), (c0 ++ c1)[m + i]? = some u → W.cell? ((⟨g, 0, none⟩ : Addr).add (m + i)) = some u := by
  intro m i u hu
  have e : (⟨g, 0, none⟩ : Addr).add (m + i) = ⟨g, 0 + (m + i), none⟩ := by rw [Addr.add_mid]
  rw [e]
  exact rng (m + i) u hu
 rcases j with _ | _ | j
 ·cases hp
  refine ⟨c0, l0, h0, fun i u hu => at_ (0 * 17) i u ?_⟩
  rw [Nat.zero_mul, Nat.zero_add, List.getElem?_append_left (List.getElem?_eq_some_iff.1 hu).1]
  exact hu
 ·cases hp
  refine ⟨c1, l1, h1, fun i u hu => at_ ((0 + 1) * 17) i u ?_⟩
  rw [List.getElem?_append_right (by omega), show (0 + 1) * 17 + i - c0.length = i by omega]
  exact hu
 ·simp at hp
theorem py_I1 {W : World} {g : Nat} {t : TypeId} (b : Bool) (s : ByteArray) (h : W.heap[g]? = some (.cells #[.bool b, .string s] t (0, 0))) : Kd.C k23 W (some ⟨g, 0, none⟩) 1 [⟨b, s⟩] := by
 refine ⟨rfl, by decide, fun _ => ⟨_, rfl, fun j p hp => ?_⟩⟩
 rcases j with _ | j
 ·cases hp
  refine ⟨[.bool b, .string s], rfl, k23_mk W _, fun i u hu => ?_⟩
  rw [Addr.add_mid]
  exact py_rng (cs := [.bool b, .string s]) h (0 * 2 + i) u (by rw [Nat.zero_mul, Nat.zero_add]; exact hu)
 ·simp at hp
theorem py_Sg1 {W : World} {g : Nat} {t : TypeId} (s : ByteArray) (h : W.heap[g]? = some (.cells #[.string s] t (0, 0))) : Kd.C Kd.string W (some ⟨g, 0, none⟩) 1 [s] := by
 refine ⟨rfl, by decide, fun _ => ⟨_, rfl, fun j p hp => ?_⟩⟩
 rcases j with _ | j
 ·cases hp
  refine ⟨[.string s], rfl, rfl, fun i u hu => ?_⟩
  rw [Addr.add_mid]
  exact py_rng (cs := [.string s]) h (0 * 1 + i) u (by rw [Nat.zero_mul, Nat.zero_add]; exact hu)
 ·simp at hp
theorem py_b3 (W : World) (a b c : Obj) : (((W.alloc a).alloc b).alloc c).heap[W.heap.size + 1 + 1]? = some c := by
 have := blk_new ((W.alloc a).alloc b) c
 simpa using this
theorem py_b2 (W : World) (a b : Obj) : ((W.alloc a).alloc b).heap[W.heap.size + 1]? = some b := by
 have := blk_new (W.alloc a) b
 simpa using this
theorem py_st3 {w W1 : World} (hb : Below w.heap.size w W1) (tr tl tu : TypeId) (R L : Array Value) (zs us : List Value) (hl : us.length = zs.length) (WA : World) (hWA : WA = (((W1.alloc (.cells R tr)).alloc (.cells L tl)).alloc (.cells zs.toArray tu)).setCells (W1.heap.size + 1 + 1) 0 us) :
  WA.heap[W1.heap.size]? = some (.cells R tr (0, 0)) ∧ WA.heap[W1.heap.size + 1]? = some (.cells L tl (0, 0)) ∧ WA.heap[W1.heap.size + 1 + 1]? = some (.cells us.toArray tu (0, 0)) ∧ Below w.heap.size w WA ∧ Below W1.heap.size W1 WA := by
 have b1 : Below W1.heap.size W1 (((W1.alloc (.cells R tr)).alloc (.cells L tl)).alloc (.cells zs.toArray tu)) := (((Below.refl _ W1).alloc (Nat.le_refl _) _).alloc (by simp) _).alloc (by simp; omega) _
 have b2 : Below W1.heap.size W1 WA := by rw [hWA]; exact py_put_below (by omega) _ _ _ b1
 refine ⟨?_, ?_, ?_, pl_next hb b2, b2⟩
 ·rw [hWA, py_put_far (by omega)]
  exact blk_alloc (blk_alloc (blk_new W1 _) _) _
 ·rw [hWA, py_put_far (by omega)]
  exact blk_alloc (py_b2 W1 _ _) _
 ·rw [hWA]
  exact py_put_blk (py_b3 W1 _ _ _) hl
def py_awk (k : Nat) : Option Bool := (impl_PyPICompare.f k false (⟨#[]⟩ : ByteArray) [(⟨false, ⟨#[1]⟩⟩ : S23)] false (⟨#[]⟩ : ByteArray) false (⟨#[]⟩ : ByteArray) false (⟨#[]⟩ : ByteArray) false (⟨#[]⟩ : ByteArray) false (⟨#[]⟩ : ByteArray) false (⟨#[]⟩ : ByteArray) [(⟨#[]⟩ : ByteArray)] [] false (⟨#[]⟩ : ByteArray) [(⟨false, ⟨#[2]⟩⟩ : S23)] false (⟨#[]⟩ : ByteArray) false (⟨#[]⟩ : ByteArray) false (⟨#[]⟩ : ByteArray) false (⟨#[]⟩ : ByteArray) false (⟨#[]⟩ : ByteArray) false (⟨#[]⟩ : ByteArray) [(⟨#[]⟩ : ByteArray)] []).bind fun r => if r = -1 then (impl_PyPILocal.f [(⟨#[97]⟩ : ByteArray)] [(⟨#[98]⟩ : ByteArray)]).bind fun s => some (s == -1) else some false
set_option maxRecDepth 100000 in
set_option maxHeartbeats 8000000 in
theorem py_awk_calls (k : Nat) (w : World) (hG : GW w) (h : py_awk k = some true) : Calls Tryz.prog 10 #[] w fun e w' => e = .returned (.bool true) ∧ Below w.heap.size w w' := by
 obtain ⟨r, h1, h2⟩ := Option.bind_eq_some_iff.1 h
 by_cases hr : r = -1
 case neg => rw [if_neg hr] at h2; cases h2
 subst hr
 rw [if_pos rfl] at h2
 obtain ⟨s, h2, h3⟩ := Option.bind_eq_some_iff.1 h2
 obtain rfl : s = -1 := by simpa using h3
 have H1 := Aside0.mk h1
 have H2 := Aside0.mk h2
 have HG := Aside0.mk hG
 clear h h1 h2 h3 hG
 have hu := Tryz.underlying29
 go_enter Tryz.func10, Tryz.ntmps10
 go_wp2_with (go_at_call 26; (with_reducible refine (laws_one.calls false ⟨#[1]⟩ w rfl).mono ?_))
 rintro e W1 ⟨rfl, hb⟩
 have B1 := Aside0.mk hb
 clear hb
 go_upto_region 2 with (first | ((with_reducible refine gate_store (t := 29) (p := 1) rfl ?_); refine wpList_store_mid rfl 29 (.tmp 1) (.tmp 6) rfl (W1.heap.size + 1 + 1) 0 #[.bool false, .string ⟨#[]⟩, .slice (some ⟨W1.heap.size, 0, none⟩) 1 1, .bool false, .string ⟨#[]⟩, .bool false, .string ⟨#[]⟩, .bool false, .string ⟨#[]⟩, .bool false, .string ⟨#[]⟩, .bool false, .string ⟨#[]⟩, .bool false, .string ⟨#[]⟩, .slice (some ⟨W1.heap.size + 1, 0, none⟩) 1 1, .slice none 0 0] rfl rfl (py_there (t := 29) (cs := [.bool false, .string ⟨#[]⟩, .slice none 0 0, .bool false, .string ⟨#[]⟩, .bool false, .string ⟨#[]⟩, .bool false, .string ⟨#[]⟩, .bool false, .string ⟨#[]⟩, .bool false, .string ⟨#[]⟩, .bool false, .string ⟨#[]⟩, .slice none 0 0, .slice none 0 0]) (py_b3 W1 _ _ _) rfl) py_info (all_oneCell_toArray (by simp [Value.oneCell'])) ?_))
 obtain ⟨WA, hWA⟩ : ∃ WA, WA = (((W1.alloc (.cells #[.bool false, .string ⟨#[1]⟩] 23)).alloc (.cells #[.string ⟨#[]⟩] 9)).alloc (.cells #[.bool false, .string ⟨#[]⟩, .slice none 0 0, .bool false, .string ⟨#[]⟩, .bool false, .string ⟨#[]⟩, .bool false, .string ⟨#[]⟩, .bool false, .string ⟨#[]⟩, .bool false, .string ⟨#[]⟩, .bool false, .string ⟨#[]⟩, .slice none 0 0, .slice none 0 0] 29)).setCells (W1.heap.size + 1 + 1) 0 [.bool false, .string ⟨#[]⟩, .slice (some ⟨W1.heap.size, 0, none⟩) 1 1, .bool false, .string ⟨#[]⟩, .bool false, .string ⟨#[]⟩, .bool false, .string ⟨#[]⟩, .bool false, .string ⟨#[]⟩, .bool false, .string ⟨#[]⟩, .bool false, .string ⟨#[]⟩, .slice (some ⟨W1.heap.size + 1, 0, none⟩) 1 1, .slice none 0 0] := ⟨_, rfl⟩
 have F1 := py_st3 B1.out 23 9 29 #[.bool false, .string ⟨#[1]⟩] #[.string ⟨#[]⟩] [.bool false, .string ⟨#[]⟩, .slice none 0 0, .bool false, .string ⟨#[]⟩, .bool false, .string ⟨#[]⟩, .bool false, .string ⟨#[]⟩, .bool false, .string ⟨#[]⟩, .bool false, .string ⟨#[]⟩, .bool false, .string ⟨#[]⟩, .slice none 0 0, .slice none 0 0] [.bool false, .string ⟨#[]⟩, .slice (some ⟨W1.heap.size, 0, none⟩) 1 1, .bool false, .string ⟨#[]⟩, .bool false, .string ⟨#[]⟩, .bool false, .string ⟨#[]⟩, .bool false, .string ⟨#[]⟩, .bool false, .string ⟨#[]⟩, .bool false, .string ⟨#[]⟩, .slice (some ⟨W1.heap.size + 1, 0, none⟩) 1 1, .slice none 0 0] rfl WA hWA
 rw [← hWA]
 clear hWA
 have F1 := Aside0.mk F1
 clear B1
 go_wp2_with (go_at_call 27; (with_reducible refine (laws_two.calls false ⟨#[2]⟩ WA rfl).mono ?_))
 rintro e W2 ⟨rfl, hb⟩
 have B2 : Aside0 (Below WA.heap.size WA W2) := ⟨hb⟩
 clear hb
 go_upto_region 3 with (first | ((with_reducible refine gate_store (t := 29) (p := 2) rfl ?_); refine wpList_store_mid rfl 29 (.tmp 2) (.tmp 10) rfl (W2.heap.size + 1 + 1) 0 #[.bool false, .string ⟨#[]⟩, .slice (some ⟨W2.heap.size, 0, none⟩) 1 1, .bool false, .string ⟨#[]⟩, .bool false, .string ⟨#[]⟩, .bool false, .string ⟨#[]⟩, .bool false, .string ⟨#[]⟩, .bool false, .string ⟨#[]⟩, .bool false, .string ⟨#[]⟩, .slice (some ⟨W2.heap.size + 1, 0, none⟩) 1 1, .slice none 0 0] rfl rfl (py_there (t := 29) (cs := [.bool false, .string ⟨#[]⟩, .slice none 0 0, .bool false, .string ⟨#[]⟩, .bool false, .string ⟨#[]⟩, .bool false, .string ⟨#[]⟩, .bool false, .string ⟨#[]⟩, .bool false, .string ⟨#[]⟩, .bool false, .string ⟨#[]⟩, .slice none 0 0, .slice none 0 0]) (py_b3 W2 _ _ _) rfl) py_info (all_oneCell_toArray (by simp [Value.oneCell'])) ?_))
 obtain ⟨WC, hWC⟩ : ∃ WA, WA = (((W2.alloc (.cells #[.bool false, .string ⟨#[2]⟩] 23)).alloc (.cells #[.string ⟨#[]⟩] 9)).alloc (.cells #[.bool false, .string ⟨#[]⟩, .slice none 0 0, .bool false, .string ⟨#[]⟩, .bool false, .string ⟨#[]⟩, .bool false, .string ⟨#[]⟩, .bool false, .string ⟨#[]⟩, .bool false, .string ⟨#[]⟩, .bool false, .string ⟨#[]⟩, .slice none 0 0, .slice none 0 0] 29)).setCells (W2.heap.size + 1 + 1) 0 [.bool false, .string ⟨#[]⟩, .slice (some ⟨W2.heap.size, 0, none⟩) 1 1, .bool false, .string ⟨#[]⟩, .bool false, .string ⟨#[]⟩, .bool false, .string ⟨#[]⟩, .bool false, .string ⟨#[]⟩, .bool false, .string ⟨#[]⟩, .bool false, .string ⟨#[]⟩, .slice (some ⟨W2.heap.size + 1, 0, none⟩) 1 1, .slice none 0 0] := ⟨_, rfl⟩
 have F2 := py_st3 B2.out 23 9 29 #[.bool false, .string ⟨#[2]⟩] #[.string ⟨#[]⟩] [.bool false, .string ⟨#[]⟩, .slice none 0 0, .bool false, .string ⟨#[]⟩, .bool false, .string ⟨#[]⟩, .bool false, .string ⟨#[]⟩, .bool false, .string ⟨#[]⟩, .bool false, .string ⟨#[]⟩, .bool false, .string ⟨#[]⟩, .slice none 0 0, .slice none 0 0] [.bool false, .string ⟨#[]⟩, .slice (some ⟨W2.heap.size, 0, none⟩) 1 1, .bool false, .string ⟨#[]⟩, .bool false, .string ⟨#[]⟩, .bool false, .string ⟨#[]⟩, .bool false, .string ⟨#[]⟩, .bool false, .string ⟨#[]⟩, .bool false, .string ⟨#[]⟩, .slice (some ⟨W2.heap.size + 1, 0, none⟩) 1 1, .slice none 0 0] rfl WC hWC
 rw [← hWC]
 clear hWC
 have F2 := Aside0.mk F2
 clear B2
 obtain ⟨r1, l1, u1, bA, -⟩ := F1.out
 obtain ⟨r2, l2, u2, bC, -⟩ := F2.out
 have hBC := Aside0.mk (pl_next bA bC)
 have KC : Aside0 (Calls Tryz.prog 7 #[.agg #[.bool false, .string ⟨#[]⟩, .slice (some ⟨W1.heap.size, 0, none⟩) 1 1, .bool false, .string ⟨#[]⟩, .bool false, .string ⟨#[]⟩, .bool false, .string ⟨#[]⟩, .bool false, .string ⟨#[]⟩, .bool false, .string ⟨#[]⟩, .bool false, .string ⟨#[]⟩, .slice (some ⟨W1.heap.size + 1, 0, none⟩) 1 1, .slice none 0 0], .agg #[.bool false, .string ⟨#[]⟩, .slice (some ⟨W2.heap.size, 0, none⟩) 1 1, .bool false, .string ⟨#[]⟩, .bool false, .string ⟨#[]⟩, .bool false, .string ⟨#[]⟩, .bool false, .string ⟨#[]⟩, .bool false, .string ⟨#[]⟩, .bool false, .string ⟨#[]⟩, .slice (some ⟨W2.heap.size + 1, 0, none⟩) 1 1, .slice none 0 0]] WC fun e w' => e = .returned (.int .i64 (-1)) ∧ Below WC.heap.size WC w') := ⟨impl_PyPICompare.calls k false ⟨#[]⟩ (some ⟨W1.heap.size, 0, none⟩) 1 [⟨false, ⟨#[1]⟩⟩] false ⟨#[]⟩ false ⟨#[]⟩ false ⟨#[]⟩ false ⟨#[]⟩ false ⟨#[]⟩ false ⟨#[]⟩ (some ⟨W1.heap.size + 1, 0, none⟩) 1 [⟨#[]⟩] none 0 [] false ⟨#[]⟩ (some ⟨W2.heap.size, 0, none⟩) 1 [⟨false, ⟨#[2]⟩⟩] false ⟨#[]⟩ false ⟨#[]⟩ false ⟨#[]⟩ false ⟨#[]⟩ false ⟨#[]⟩ false ⟨#[]⟩ (some ⟨W2.heap.size + 1, 0, none⟩) 1 [⟨#[]⟩] none 0 [] (-1) WC (py_I1 _ _ (pl_keep bC r1)) (by decide) (py_Sg1 _ (pl_keep bC l1)) (by decide) (Kd.C_nil _ _) (by decide) (py_I1 _ _ r2) (by decide) (py_Sg1 _ l2) (by decide) (Kd.C_nil _ _) (by decide) (GW.below HG.out hBC.out) H1.out⟩
 have Q0 : Aside0 (∀ j v, [.bool false, .string ⟨#[]⟩, .slice (some ⟨W1.heap.size, 0, none⟩) 1 1, .bool false, .string ⟨#[]⟩, .bool false, .string ⟨#[]⟩, .bool false, .string ⟨#[]⟩, .bool false, .string ⟨#[]⟩, .bool false, .string ⟨#[]⟩, .bool false, .string ⟨#[]⟩, .slice (some ⟨W1.heap.size + 1, 0, none⟩) 1 1, .slice none 0 0][j]? = some v → WC.cell? ((⟨W1.heap.size + 1 + 1, 0, none⟩ : Addr).add j) = some v) := ⟨fun j v hv => by rw [Addr.add_mid]; exact py_rng (cs := [.bool false, .string ⟨#[]⟩, .slice (some ⟨W1.heap.size, 0, none⟩) 1 1, .bool false, .string ⟨#[]⟩, .bool false, .string ⟨#[]⟩, .bool false, .string ⟨#[]⟩, .bool false, .string ⟨#[]⟩, .bool false, .string ⟨#[]⟩, .bool false, .string ⟨#[]⟩, .slice (some ⟨W1.heap.size + 1, 0, none⟩) 1 1, .slice none 0 0]) (pl_keep bC u1) j v hv⟩
 have Q1 : Aside0 (∀ j v, [.bool false, .string ⟨#[]⟩, .slice (some ⟨W2.heap.size, 0, none⟩) 1 1, .bool false, .string ⟨#[]⟩, .bool false, .string ⟨#[]⟩, .bool false, .string ⟨#[]⟩, .bool false, .string ⟨#[]⟩, .bool false, .string ⟨#[]⟩, .bool false, .string ⟨#[]⟩, .slice (some ⟨W2.heap.size + 1, 0, none⟩) 1 1, .slice none 0 0][j]? = some v → WC.cell? ((⟨W2.heap.size + 1 + 1, 0, none⟩ : Addr).add j) = some v) := ⟨fun j v hv => by rw [Addr.add_mid]; exact py_rng (cs := [.bool false, .string ⟨#[]⟩, .slice (some ⟨W2.heap.size, 0, none⟩) 1 1, .bool false, .string ⟨#[]⟩, .bool false, .string ⟨#[]⟩, .bool false, .string ⟨#[]⟩, .bool false, .string ⟨#[]⟩, .bool false, .string ⟨#[]⟩, .bool false, .string ⟨#[]⟩, .slice (some ⟨W2.heap.size + 1, 0, none⟩) 1 1, .slice none 0 0]) u2 j v hv⟩
 clear r1 l1 u1 bA r2 l2 u2 bC F1 F2
 go_wp2_with (first | ((with_reducible refine gate_dst (N := 11) rfl ?_); refine py_load rfl 29 (.tmp 1) rfl ⟨W1.heap.size + 1 + 1, 0, none⟩ rfl _ _ Q0.out hu rfl py_info ?_) | ((with_reducible refine gate_dst (N := 12) rfl ?_); refine py_load rfl 29 (.tmp 2) rfl ⟨W2.heap.size + 1 + 1, 0, none⟩ rfl _ _ Q1.out hu rfl py_info ?_) | (go_at_call 7; (with_reducible refine (KC.out).mono ?_)))
 rintro e W3 ⟨rfl, hb⟩
 have B3 := Aside0.mk (pl_next hBC.out hb)
 clear hb KC Q0 Q1 hBC hu
 have K2 : Aside0 (Calls Tryz.prog 28 #[.slice (some ⟨W3.heap.size, 0, none⟩) 1 1, .slice (some ⟨W3.heap.size + 1, 0, none⟩) 1 1] ((W3.alloc (.cells #[.string ⟨#[97]⟩] 9)).alloc (.cells #[.string ⟨#[98]⟩] 9)) fun e w' => e = .returned (.int .i64 (-1)) ∧ Below ((W3.alloc (.cells #[.string ⟨#[97]⟩] 9)).alloc (.cells #[.string ⟨#[98]⟩] 9)).heap.size ((W3.alloc (.cells #[.string ⟨#[97]⟩] 9)).alloc (.cells #[.string ⟨#[98]⟩] 9)) w') := ⟨impl_PyPILocal.calls (some ⟨W3.heap.size, 0, none⟩) 1 [⟨#[97]⟩] (some ⟨W3.heap.size + 1, 0, none⟩) 1 [⟨#[98]⟩] (-1) _ (py_Sg1 _ (blk_alloc (blk_new W3 _) _)) (by decide) (py_Sg1 _ (py_b2 W3 _ _)) (by decide) (GW.below HG.out (((B3.out).alloc B3.out.size _).alloc (by have := B3.out.size; simp; omega) _)) H2.out⟩
 go_wp2_with (go_at_call 28; (with_reducible refine (K2.out).mono ?_))
 rintro e W4 ⟨rfl, hb⟩
 have B4 : Aside0 (Below w.heap.size w W4) := ⟨pl_next (((B3.out).alloc B3.out.size _).alloc (by have := B3.out.size; simp; omega) _) hb⟩
 clear hb K2 B3
 go_wp2
 go_ret
 exact ⟨by first | rfl | simp, B4.out⟩
def pf_T11 : Bool × List (List Nat × List Nat) := (true, [([], []), ([0, 0], [0]), ([1], [1]), ([1], [1]), ([2, 3, 1, 1], [1, 2, 3]), ([4, 1], [1, 4]), ([1, 5], [1, 5]), ([6, 4], [6]), ([7], [7]), ([7], [7]), ([8, 9, 7, 7], [7, 8, 9]), ([7], [7]), ([7], [7]), ([11, 12, 10, 7], [7, 11, 12]), ([10, 13, 7], [7, 10, 13]), ([7, 14], [7, 14]), ([15, 13, 0, 1, 2, 3, 4, 5, 6, 7, 8, 9, 10, 11, 12, 13, 14, 15], [15])])
def pf_B11 : List Nat := [0, 1, 3, 3, 15, 31, 63, 127, 255, 255, 1023, 255, 255, 8191, 16383, 32767, 65535]
theorem pf_tab11 : rtab .any (opsOf Tryz.f4 11) = pf_T11 := by kernel_rfl
theorem pf_bits11 : waitsOk pf_T11.2 pf_B11 = true := by kernel_rfl
theorem pf_run {P : Program} {op : Oper} {a : Act} {w : World} (ty : TypeId) (x : Operand) (ho : op.op = .load ty x) (p : Addr) (hx : a.eval x = .pointer (some p)) (cs : List Value) (d : TypeDesc) (hc : ∀ j v, cs[j]? = some v → w.cell? (p.add j) = some v)
  (hu : P.underlying ty = some d) (hd : d.isRow = true) (hi : (P.info? ty).map (·.size) = some cs.length) : (execOp a.eval op).run P w = .ok (.value (.agg cs.toArray)) w := by
 have hl : (loadCells p cs.length).run P w = .ok cs.toArray w := run_loadCells_list (P := P) w p cs hc
 have hrun : (loadVar ty p).run P w = .ok (.agg cs.toArray) w := by
  cases hq : P.info? ty with
  | none => simp [hq] at hi
  | some i =>
   have hs : i.size = cs.length := by simpa [hq] using hi
   have hagg : (isAgg ty).run P w = .ok true w := by
    unfold isAgg
    rw [Sem.run_bind, run_underlying hu w]
    cases d <;> simp_all
   simp [loadVar, Sem.run_bind, hagg, sizeOf, typeInfo, hq, hs, hl]
 unfold execOp
 simp only [ho, hx, Instr.loadAt, Instr.sureAddr, Sem.run_bind, Sem.run_pure, Result.andThen_ok, hrun]
def laws_FnPyPIFilled.f (k : Nat) (a0_0 : Bool) (a0_1 : ByteArray) (l0_2 : List S23) (a0_3 : Bool) (a0_4 : ByteArray) (a0_5 : Bool) (a0_6 : ByteArray) (a0_7 : Bool) (a0_8 : ByteArray) (a0_9 : Bool) (a0_10 : ByteArray) (a0_11 : Bool) (a0_12 : ByteArray) (a0_13 : Bool) (a0_14 : ByteArray) (l0_15 : List ByteArray) (l0_16 : List ByteArray) (a1_0 : Bool) (a1_1 : ByteArray) (l1_2 : List S23) (a1_3 : Bool) (a1_4 : ByteArray) (a1_5 : Bool) (a1_6 : ByteArray) (a1_7 : Bool) (a1_8 : ByteArray) (a1_9 : Bool) (a1_10 : ByteArray) (a1_11 : Bool) (a1_12 : ByteArray) (a1_13 : Bool) (a1_14 : ByteArray) (l1_15 : List ByteArray) (l1_16 : List ByteArray) (a2 : Int) : Option Bool := (laws_zzFits12.f k a0_0 a0_1 l0_2 a0_3 a0_4 a0_5 a0_6 a0_7 a0_8 a0_9 a0_10 a0_11 a0_12 a0_13 a0_14 l0_15 l0_16).bind fun a => if a = true then (laws_zzFits12.f k a1_0 a1_1 l1_2 a1_3 a1_4 a1_5 a1_6 a1_7 a1_8 a1_9 a1_10 a1_11 a1_12 a1_13 a1_14 l1_15 l1_16).bind fun b => if b = true then (laws_pypi.f k [(⟨⟨a0_0, a0_1⟩, l0_2, ⟨a0_3, a0_4, ⟨a0_5, a0_6⟩⟩, ⟨a0_7, a0_8, ⟨a0_9, a0_10⟩⟩, ⟨a0_11, a0_12, ⟨a0_13, a0_14⟩⟩, l0_15, l0_16⟩ : S29), (⟨⟨a1_0, a1_1⟩, l1_2, ⟨a1_3, a1_4, ⟨a1_5, a1_6⟩⟩, ⟨a1_7, a1_8, ⟨a1_9, a1_10⟩⟩, ⟨a1_11, a1_12, ⟨a1_13, a1_14⟩⟩, l1_15, l1_16⟩ : S29)]).bind fun c => if c = true then (py_awk k).bind fun d => if d = true then (impl_PyPICompare.f k a0_0 a0_1 (l0_2 ++ List.replicate a2.toNat (⟨false, ⟨#[]⟩⟩ : S23)) a0_3 a0_4 a0_5 a0_6 a0_7 a0_8 a0_9 a0_10 a0_11 a0_12 a0_13 a0_14 l0_15 l0_16 a0_0 a0_1 l0_2 a0_3 a0_4 a0_5 a0_6 a0_7 a0_8 a0_9 a0_10 a0_11 a0_12 a0_13 a0_14 l0_15 l0_16).bind fun r => if r = 0 then (impl_PyPICompare.f k a0_0 a0_1 (l0_2 ++ List.replicate a2.toNat (⟨false, ⟨#[]⟩⟩ : S23)) a0_3 a0_4 a0_5 a0_6 a0_7 a0_8 a0_9 a0_10 a0_11 a0_12 a0_13 a0_14 l0_15 l0_16 a1_0 a1_1 l1_2 a1_3 a1_4 a1_5 a1_6 a1_7 a1_8 a1_9 a1_10 a1_11 a1_12 a1_13 a1_14 l1_15 l1_16).bind fun s => (impl_PyPICompare.f k a0_0 a0_1 l0_2 a0_3 a0_4 a0_5 a0_6 a0_7 a0_8 a0_9 a0_10 a0_11 a0_12 a0_13 a0_14 l0_15 l0_16 a1_0 a1_1 l1_2 a1_3 a1_4 a1_5 a1_6 a1_7 a1_8 a1_9 a1_10 a1_11 a1_12 a1_13 a1_14 l1_15 l1_16).bind fun t => if s = t then (if l0_2.length ≤ 1000 then some true else none) else some false else some false else some false else some true else some true else some true
def laws_FnPyPIFilled.Pure : Prop := ∀ (a0_0 : Bool) (a0_1 : ByteArray) (l0_2 : List S23) (a0_3 : Bool) (a0_4 : ByteArray) (a0_5 : Bool) (a0_6 : ByteArray) (a0_7 : Bool) (a0_8 : ByteArray) (a0_9 : Bool) (a0_10 : ByteArray) (a0_11 : Bool) (a0_12 : ByteArray) (a0_13 : Bool) (a0_14 : ByteArray) (l0_15 : List ByteArray) (l0_16 : List ByteArray) (a1_0 : Bool) (a1_1 : ByteArray) (l1_2 : List S23) (a1_3 : Bool) (a1_4 : ByteArray) (a1_5 : Bool) (a1_6 : ByteArray) (a1_7 : Bool) (a1_8 : ByteArray) (a1_9 : Bool) (a1_10 : ByteArray) (a1_11 : Bool) (a1_12 : ByteArray) (a1_13 : Bool) (a1_14 : ByteArray) (l1_15 : List ByteArray) (l1_16 : List ByteArray) (a2 : Int), l0_2.length ≤ 9223372036854775807 → l0_15.length ≤ 9223372036854775807 → l0_16.length ≤ 9223372036854775807 → l1_2.length ≤ 9223372036854775807 → l1_15.length ≤ 9223372036854775807 → l1_16.length ≤ 9223372036854775807 → (Lit.int .u8 a2).wf = true → ∃ k, laws_FnPyPIFilled.f k a0_0 a0_1 l0_2 a0_3 a0_4 a0_5 a0_6 a0_7 a0_8 a0_9 a0_10 a0_11 a0_12 a0_13 a0_14 l0_15 l0_16 a1_0 a1_1 l1_2 a1_3 a1_4 a1_5 a1_6 a1_7 a1_8 a1_9 a1_10 a1_11 a1_12 a1_13 a1_14 l1_15 l1_16 a2 = some true
def pfI : Value → Nat
 | .int _ n => n.toNat
 | _ => 0
theorem pf_info : (Tryz.prog.info? 23).map (fun i => (i.zero, i.size, i.bytes)) = some (some (.agg #[(.bool false), (.string ⟨#[]⟩)]), 2, 24) := by kernel_rfl
theorem pf_R_set {W : World} {base b i : Nat} {v x : Value} {zs : List S23} (h : Kd.R k23 23 W base (fun _ => True) v zs) (hb : b < base) : Kd.R k23 23 (W.setCell ⟨b, i, none⟩ x) base (fun _ => True) v zs :=
 Kd.R_mono (Kd.R_move (Kd.R_bound h) (fun k hk => Below.heap_setCell _ _ _ k (by have := hk.2.1; show k ≠ b; omega))) (fun _ _ => trivial)
set_option maxRecDepth 100000 in
set_option maxHeartbeats 8000000 in
theorem laws_FnPyPIFilled.walk (P : laws_FnPyPIFilled.Pure) (a0_0 : Bool) (a0_1 : ByteArray) (A0_2 : Option Addr) (c0_2 : Nat) (l0_2 : List S23) (a0_3 : Bool) (a0_4 : ByteArray) (a0_5 : Bool) (a0_6 : ByteArray) (a0_7 : Bool) (a0_8 : ByteArray) (a0_9 : Bool) (a0_10 : ByteArray) (a0_11 : Bool) (a0_12 : ByteArray) (a0_13 : Bool) (a0_14 : ByteArray) (A0_15 : Option Addr) (c0_15 : Nat) (l0_15 : List ByteArray) (A0_16 : Option Addr) (c0_16 : Nat) (l0_16 : List ByteArray) (a1_0 : Bool) (a1_1 : ByteArray) (A1_2 : Option Addr) (c1_2 : Nat) (l1_2 : List S23) (a1_3 : Bool) (a1_4 : ByteArray) (a1_5 : Bool) (a1_6 : ByteArray) (a1_7 : Bool) (a1_8 : ByteArray) (a1_9 : Bool) (a1_10 : ByteArray) (a1_11 : Bool) (a1_12 : ByteArray) (a1_13 : Bool) (a1_14 : ByteArray) (A1_15 : Option Addr) (c1_15 : Nat) (l1_15 : List ByteArray) (A1_16 : Option Addr) (c1_16 : Nat) (l1_16 : List ByteArray) (a2 : Int) (w : World) (hm0_2 : l0_2.length ≤ 9223372036854775807) (hm0_15 : l0_15.length ≤ 9223372036854775807) (hm0_16 : l0_16.length ≤ 9223372036854775807) (hm1_2 : l1_2.length ≤ 9223372036854775807) (hm1_15 : l1_15.length ≤ 9223372036854775807) (hm1_16 : l1_16.length ≤ 9223372036854775807) (hw2 : (Lit.int .u8 a2).wf = true) (hr0_2 : Kd.C k23 w A0_2 l0_2.length l0_2) (hc0_2 : l0_2.length ≤ c0_2) (hr0_15 : Kd.C Kd.string w A0_15 l0_15.length l0_15) (hc0_15 : l0_15.length ≤ c0_15) (hr0_16 : Kd.C Kd.string w A0_16 l0_16.length l0_16) (hc0_16 : l0_16.length ≤ c0_16) (hr1_2 : Kd.C k23 w A1_2 l1_2.length l1_2) (hc1_2 : l1_2.length ≤ c1_2) (hr1_15 : Kd.C Kd.string w A1_15 l1_15.length l1_15) (hc1_15 : l1_15.length ≤ c1_15) (hr1_16 : Kd.C Kd.string w A1_16 l1_16.length l1_16) (hc1_16 : l1_16.length ≤ c1_16) (hG : GW w) :
  Calls Tryz.prog 4 #[.agg #[.bool a0_0, .string a0_1, .slice A0_2 l0_2.length c0_2, .bool a0_3, .string a0_4, .bool a0_5, .string a0_6, .bool a0_7, .string a0_8, .bool a0_9, .string a0_10, .bool a0_11, .string a0_12, .bool a0_13, .string a0_14, .slice A0_15 l0_15.length c0_15, .slice A0_16 l0_16.length c0_16], .agg #[.bool a1_0, .string a1_1, .slice A1_2 l1_2.length c1_2, .bool a1_3, .string a1_4, .bool a1_5, .string a1_6, .bool a1_7, .string a1_8, .bool a1_9, .string a1_10, .bool a1_11, .string a1_12, .bool a1_13, .string a1_14, .slice A1_15 l1_15.length c1_15, .slice A1_16 l1_16.length c1_16], .int .u8 a2] w fun e w' => e = .returned (.bool true) ∧ Below w.heap.size w w' := by
 obtain ⟨k, h⟩ := P a0_0 a0_1 l0_2 a0_3 a0_4 a0_5 a0_6 a0_7 a0_8 a0_9 a0_10 a0_11 a0_12 a0_13 a0_14 l0_15 l0_16 a1_0 a1_1 l1_2 a1_3 a1_4 a1_5 a1_6 a1_7 a1_8 a1_9 a1_10 a1_11 a1_12 a1_13 a1_14 l1_15 l1_16 a2 hm0_2 hm0_15 hm0_16 hm1_2 hm1_15 hm1_16 hw2
 unfold laws_FnPyPIFilled.f at h
 have hz : 0 ≤ a2 ∧ a2 ≤ 255 := by
  simpa [Lit.wf, IntKind.min, IntKind.max, IntKind.signed, IntKind.bits] using hw2
 obtain ⟨nz, rfl⟩ : ∃ n : Nat, a2 = (n : Int) := ⟨a2.toNat, by omega⟩
 rw [Int.toNat_natCast] at h
 have HZ : Aside0 (nz ≤ 255) := ⟨by omega⟩
 clear hw2 hz
 obtain ⟨a, h1, h2⟩ := Option.bind_eq_some_iff.1 h
 clear h
 have K1 : Aside0 (∀ W, Below w.heap.size w W → Calls Tryz.prog 5 #[.agg #[.bool a0_0, .string a0_1, .slice A0_2 l0_2.length c0_2, .bool a0_3, .string a0_4, .bool a0_5, .string a0_6, .bool a0_7, .string a0_8, .bool a0_9, .string a0_10, .bool a0_11, .string a0_12, .bool a0_13, .string a0_14, .slice A0_15 l0_15.length c0_15, .slice A0_16 l0_16.length c0_16]] W fun e w' => e = .returned (.bool a) ∧ Below W.heap.size W w') := ⟨fun W hB => laws_zzFits12.calls k a0_0 a0_1 A0_2 c0_2 l0_2 a0_3 a0_4 a0_5 a0_6 a0_7 a0_8 a0_9 a0_10 a0_11 a0_12 a0_13 a0_14 A0_15 c0_15 l0_15 A0_16 c0_16 l0_16 a W (Kd.C_below hr0_2 hB) hc0_2 (Kd.C_below hr0_15 hB) hc0_15 (Kd.C_below hr0_16 hB) hc0_16 h1⟩
 obtain ⟨n0_2, hn0_2⟩ : ∃ n, n = l0_2.length := ⟨_, rfl⟩
 obtain ⟨n0_15, hn0_15⟩ : ∃ n, n = l0_15.length := ⟨_, rfl⟩
 obtain ⟨n0_16, hn0_16⟩ : ∃ n, n = l0_16.length := ⟨_, rfl⟩
 obtain ⟨n1_2, hn1_2⟩ : ∃ n, n = l1_2.length := ⟨_, rfl⟩
 obtain ⟨n1_15, hn1_15⟩ : ∃ n, n = l1_15.length := ⟨_, rfl⟩
 obtain ⟨n1_16, hn1_16⟩ : ∃ n, n = l1_16.length := ⟨_, rfl⟩
 rw [← hn0_2, ← hn0_15, ← hn0_16] at K1
 rw [← hn0_2, ← hn0_15, ← hn0_16, ← hn1_2, ← hn1_15, ← hn1_16]
 have HHR := Aside0.mk (And.intro (And.intro (And.intro hr0_2 hc0_2) (And.intro (And.intro hr0_15 hc0_15) (And.intro (And.intro hr0_16 hc0_16) (And.intro (And.intro hr1_2 hc1_2) (And.intro (And.intro hr1_15 hc1_15) (And.intro hr1_16 hc1_16)))))) (And.intro hn0_2 (And.intro hn0_15 (And.intro hn0_16 (And.intro hn1_2 (And.intro hn1_15 hn1_16))))))
 have HG := Aside0.mk hG
 have HH1 := Aside0.mk h2
 clear h2 h1 hG hr0_2 hc0_2 hn0_2 hm0_2 hr0_15 hc0_15 hn0_15 hm0_15 hr0_16 hc0_16 hn0_16 hm0_16 hr1_2 hc1_2 hn1_2 hm1_2 hr1_15 hc1_15 hn1_15 hm1_15 hr1_16 hc1_16 hn1_16 hm1_16
 obtain ⟨WA, hWA⟩ : ∃ WA : World, WA = (w.alloc (.cells #[.bool a0_0, .string a0_1, .slice A0_2 n0_2 c0_2, .bool a0_3, .string a0_4, .bool a0_5, .string a0_6, .bool a0_7, .string a0_8, .bool a0_9, .string a0_10, .bool a0_11, .string a0_12, .bool a0_13, .string a0_14, .slice A0_15 n0_15 c0_15, .slice A0_16 n0_16 c0_16] 29)).alloc (.cells #[.bool a1_0, .string a1_1, .slice A1_2 n1_2 c1_2, .bool a1_3, .string a1_4, .bool a1_5, .string a1_6, .bool a1_7, .string a1_8, .bool a1_9, .string a1_10, .bool a1_11, .string a1_12, .bool a1_13, .string a1_14, .slice A1_15 n1_15 c1_15, .slice A1_16 n1_16 c1_16] 29) := ⟨_, rfl⟩
 have hs1 : (w.alloc (.cells #[.bool a0_0, .string a0_1, .slice A0_2 n0_2 c0_2, .bool a0_3, .string a0_4, .bool a0_5, .string a0_6, .bool a0_7, .string a0_8, .bool a0_9, .string a0_10, .bool a0_11, .string a0_12, .bool a0_13, .string a0_14, .slice A0_15 n0_15 c0_15, .slice A0_16 n0_16 c0_16] 29)).heap.size = w.heap.size + 1 := by simp
 have c98 : WA.heap[w.heap.size]? = some (.cells #[.bool a0_0, .string a0_1, .slice A0_2 n0_2 c0_2, .bool a0_3, .string a0_4, .bool a0_5, .string a0_6, .bool a0_7, .string a0_8, .bool a0_9, .string a0_10, .bool a0_11, .string a0_12, .bool a0_13, .string a0_14, .slice A0_15 n0_15 c0_15, .slice A0_16 n0_16 c0_16] 29 (0, 0)) := by rw [hWA]; exact blk_alloc (blk_new w _) _
 have c97 : WA.heap[w.heap.size + 1]? = some (.cells #[.bool a1_0, .string a1_1, .slice A1_2 n1_2 c1_2, .bool a1_3, .string a1_4, .bool a1_5, .string a1_6, .bool a1_7, .string a1_8, .bool a1_9, .string a1_10, .bool a1_11, .string a1_12, .bool a1_13, .string a1_14, .slice A1_15 n1_15 c1_15, .slice A1_16 n1_16 c1_16] 29 (0, 0)) := by
  have := blk_new (w.alloc (.cells #[.bool a0_0, .string a0_1, .slice A0_2 n0_2 c0_2, .bool a0_3, .string a0_4, .bool a0_5, .string a0_6, .bool a0_7, .string a0_8, .bool a0_9, .string a0_10, .bool a0_11, .string a0_12, .bool a0_13, .string a0_14, .slice A0_15 n0_15 c0_15, .slice A0_16 n0_16 c0_16] 29)) (.cells #[.bool a1_0, .string a1_1, .slice A1_2 n1_2 c1_2, .bool a1_3, .string a1_4, .bool a1_5, .string a1_6, .bool a1_7, .string a1_8, .bool a1_9, .string a1_10, .bool a1_11, .string a1_12, .bool a1_13, .string a1_14, .slice A1_15 n1_15 c1_15, .slice A1_16 n1_16 c1_16] 29)
  rw [hs1] at this
  rw [hWA]
  exact this
 have BA : Aside0 (Below w.heap.size w WA) := ⟨by rw [hWA]; exact ((Below.refl _ w).alloc (Nat.le_refl _) _).alloc (by simp) _⟩
 have Q0 : Aside0 (∀ W, Below WA.heap.size WA W → ∀ j v, [.bool a0_0, .string a0_1, .slice A0_2 n0_2 c0_2, .bool a0_3, .string a0_4, .bool a0_5, .string a0_6, .bool a0_7, .string a0_8, .bool a0_9, .string a0_10, .bool a0_11, .string a0_12, .bool a0_13, .string a0_14, .slice A0_15 n0_15 c0_15, .slice A0_16 n0_16 c0_16][j]? = some v → W.cell? ((⟨w.heap.size, 0, none⟩ : Addr).add j) = some v) := ⟨fun W hB j v hv => by rw [Addr.add_mid]; exact py_rng (cs := [.bool a0_0, .string a0_1, .slice A0_2 n0_2 c0_2, .bool a0_3, .string a0_4, .bool a0_5, .string a0_6, .bool a0_7, .string a0_8, .bool a0_9, .string a0_10, .bool a0_11, .string a0_12, .bool a0_13, .string a0_14, .slice A0_15 n0_15 c0_15, .slice A0_16 n0_16 c0_16]) (pl_keep hB c98) j v hv⟩
 have Q1 : Aside0 (∀ W, Below WA.heap.size WA W → ∀ j v, [.bool a1_0, .string a1_1, .slice A1_2 n1_2 c1_2, .bool a1_3, .string a1_4, .bool a1_5, .string a1_6, .bool a1_7, .string a1_8, .bool a1_9, .string a1_10, .bool a1_11, .string a1_12, .bool a1_13, .string a1_14, .slice A1_15 n1_15 c1_15, .slice A1_16 n1_16 c1_16][j]? = some v → W.cell? ((⟨w.heap.size + 1, 0, none⟩ : Addr).add j) = some v) := ⟨fun W hB j v hv => by rw [Addr.add_mid]; exact py_rng (cs := [.bool a1_0, .string a1_1, .slice A1_2 n1_2 c1_2, .bool a1_3, .string a1_4, .bool a1_5, .string a1_6, .bool a1_7, .string a1_8, .bool a1_9, .string a1_10, .bool a1_11, .string a1_12, .bool a1_13, .string a1_14, .slice A1_15 n1_15 c1_15, .slice A1_16 n1_16 c1_16]) (pl_keep hB c97) j v hv⟩
 have Z0 := Aside0.mk c98
 have Z1 := Aside0.mk c97
 have HWA := Aside0.mk hWA
 clear hWA hs1 c98 c97
 have hu := Tryz.underlying29
 go_enter Tryz.func4, Tryz.ntmps4
 go_upto_region 1 with fail
 rw [← HWA.out]
 clear HWA
 have C0 : Aside0 (Below WA.heap.size WA WA) := ⟨Below.refl _ _⟩
 have K1 := Aside0.mk (K1.out WA BA.out)
 go_wp2_with (first | ((with_reducible refine gate_dst (N := 8) rfl ?_); refine py_load rfl 29 (.tmp 3) rfl ⟨w.heap.size, 0, none⟩ rfl _ _ (Q0.out _ C0.out) hu rfl py_info ?_) | (go_at_call 5; (with_reducible refine (K1.out).mono ?_)))
 rintro e W1 ⟨rfl, hB⟩
 have C1 : Aside0 (Below WA.heap.size WA W1) := ⟨pl_next C0.out hB⟩
 clear hB C0 K1
 cases a with
 | false =>
  clear HH1 HHR Q0 Q1 hu Z0 Z1 HG HZ
  go_wp2
  go_ret
  exact ⟨rfl, pl_next BA.out C1.out⟩
 | true =>
  have h := HH1.out
  rw [if_pos rfl] at h
  obtain ⟨b, h1, h2⟩ := Option.bind_eq_some_iff.1 h
  have HH2 := Aside0.mk h2
  clear h h2 HH1
  have K2 : Aside0 (∀ W, Below w.heap.size w W → Calls Tryz.prog 5 #[.agg #[.bool a1_0, .string a1_1, .slice A1_2 n1_2 c1_2, .bool a1_3, .string a1_4, .bool a1_5, .string a1_6, .bool a1_7, .string a1_8, .bool a1_9, .string a1_10, .bool a1_11, .string a1_12, .bool a1_13, .string a1_14, .slice A1_15 n1_15 c1_15, .slice A1_16 n1_16 c1_16]] W fun e w' => e = .returned (.bool b) ∧ Below W.heap.size W w') := ⟨fun W hB => by
   obtain ⟨⟨⟨hr0_2, hc0_2⟩, ⟨hr0_15, hc0_15⟩, ⟨hr0_16, hc0_16⟩, ⟨hr1_2, hc1_2⟩, ⟨hr1_15, hc1_15⟩, ⟨hr1_16, hc1_16⟩⟩, hn0_2, hn0_15, hn0_16, hn1_2, hn1_15, hn1_16⟩ := HHR.out
   have := laws_zzFits12.calls k a1_0 a1_1 A1_2 c1_2 l1_2 a1_3 a1_4 a1_5 a1_6 a1_7 a1_8 a1_9 a1_10 a1_11 a1_12 a1_13 a1_14 A1_15 c1_15 l1_15 A1_16 c1_16 l1_16 b W (Kd.C_below hr1_2 hB) hc1_2 (Kd.C_below hr1_15 hB) hc1_15 (Kd.C_below hr1_16 hB) hc1_16 h1
   simp only [← hn0_2, ← hn0_15, ← hn0_16, ← hn1_2, ← hn1_15, ← hn1_16] at this
   exact this⟩
  have K2 := Aside0.mk (K2.out W1 (pl_next BA.out C1.out))
  clear h1
  go_wp2_with (first | ((with_reducible refine gate_dst (N := 12) rfl ?_); refine gate_guard (by rfl) ?_; refine py_load rfl 29 (.tmp 4) rfl ⟨w.heap.size + 1, 0, none⟩ rfl _ _ (Q1.out _ C1.out) hu rfl py_info ?_) | (go_at_call 5; (with_reducible refine (K2.out).mono ?_)))
  rintro e W2 ⟨rfl, hB⟩
  have C2 : Aside0 (Below WA.heap.size WA W2) := ⟨pl_next C1.out hB⟩
  clear hB C1 K2
  cases b with
  | false =>
   clear HH2 HHR Q0 Q1 hu Z0 Z1 HG HZ
   go_wp2
   go_ret
   exact ⟨rfl, pl_next BA.out C2.out⟩
  | true =>
   have h := HH2.out
   rw [if_pos rfl] at h
   obtain ⟨c, h1, h2⟩ := Option.bind_eq_some_iff.1 h
   have HH3 := Aside0.mk h2
   clear h h2 HH2
   have K3 : Aside0 (∀ W, Below w.heap.size w W → Calls Tryz.prog 6 #[.slice (some ⟨W.heap.size, 0, none⟩) 2 2] (W.alloc (.cells #[.bool a0_0, .string a0_1, .slice A0_2 n0_2 c0_2, .bool a0_3, .string a0_4, .bool a0_5, .string a0_6, .bool a0_7, .string a0_8, .bool a0_9, .string a0_10, .bool a0_11, .string a0_12, .bool a0_13, .string a0_14, .slice A0_15 n0_15 c0_15, .slice A0_16 n0_16 c0_16, .bool a1_0, .string a1_1, .slice A1_2 n1_2 c1_2, .bool a1_3, .string a1_4, .bool a1_5, .string a1_6, .bool a1_7, .string a1_8, .bool a1_9, .string a1_10, .bool a1_11, .string a1_12, .bool a1_13, .string a1_14, .slice A1_15 n1_15 c1_15, .slice A1_16 n1_16 c1_16] 29)) fun e w' => e = .returned (.bool c) ∧ Below W.heap.size W w') := ⟨fun W hB => by
    obtain ⟨⟨⟨hr0_2, hc0_2⟩, ⟨hr0_15, hc0_15⟩, ⟨hr0_16, hc0_16⟩, ⟨hr1_2, hc1_2⟩, ⟨hr1_15, hc1_15⟩, ⟨hr1_16, hc1_16⟩⟩, hn0_2, hn0_15, hn0_16, hn1_2, hn1_15, hn1_16⟩ := HHR.out
    rw [hn0_2, hn0_15, hn0_16, hn1_2, hn1_15, hn1_16]
    exact (laws_pypi.calls k (some ⟨W.heap.size, 0, none⟩) 2 [(⟨⟨a0_0, a0_1⟩, l0_2, ⟨a0_3, a0_4, ⟨a0_5, a0_6⟩⟩, ⟨a0_7, a0_8, ⟨a0_9, a0_10⟩⟩, ⟨a0_11, a0_12, ⟨a0_13, a0_14⟩⟩, l0_15, l0_16⟩ : S29), (⟨⟨a1_0, a1_1⟩, l1_2, ⟨a1_3, a1_4, ⟨a1_5, a1_6⟩⟩, ⟨a1_7, a1_8, ⟨a1_9, a1_10⟩⟩, ⟨a1_11, a1_12, ⟨a1_13, a1_14⟩⟩, l1_15, l1_16⟩ : S29)] c _ (pl_C2 (c0 := [.bool a0_0, .string a0_1, .slice A0_2 l0_2.length c0_2, .bool a0_3, .string a0_4, .bool a0_5, .string a0_6, .bool a0_7, .string a0_8, .bool a0_9, .string a0_10, .bool a0_11, .string a0_12, .bool a0_13, .string a0_14, .slice A0_15 l0_15.length c0_15, .slice A0_16 l0_16.length c0_16]) (c1 := [.bool a1_0, .string a1_1, .slice A1_2 l1_2.length c1_2, .bool a1_3, .string a1_4, .bool a1_5, .string a1_6, .bool a1_7, .string a1_8, .bool a1_9, .string a1_10, .bool a1_11, .string a1_12, .bool a1_13, .string a1_14, .slice A1_15 l1_15.length c1_15, .slice A1_16 l1_16.length c1_16]) (blk_new W _) (k29_mk _ (⟨⟨a0_0, a0_1⟩, l0_2, ⟨a0_3, a0_4, ⟨a0_5, a0_6⟩⟩, ⟨a0_7, a0_8, ⟨a0_9, a0_10⟩⟩, ⟨a0_11, a0_12, ⟨a0_13, a0_14⟩⟩, l0_15, l0_16⟩ : S29) hc0_2 (Kd.C_below hr0_2 (hB.alloc hB.size _)) hc0_15 (Kd.C_below hr0_15 (hB.alloc hB.size _)) hc0_16 (Kd.C_below hr0_16 (hB.alloc hB.size _))) (k29_mk _ (⟨⟨a1_0, a1_1⟩, l1_2, ⟨a1_3, a1_4, ⟨a1_5, a1_6⟩⟩, ⟨a1_7, a1_8, ⟨a1_9, a1_10⟩⟩, ⟨a1_11, a1_12, ⟨a1_13, a1_14⟩⟩, l1_15, l1_16⟩ : S29) hc1_2 (Kd.C_below hr1_2 (hB.alloc hB.size _)) hc1_15 (Kd.C_below hr1_15 (hB.alloc hB.size _)) hc1_16 (Kd.C_below hr1_16 (hB.alloc hB.size _))) rfl rfl) (Nat.le_refl _) h1).mono fun e w' h => ⟨h.1, ((Below.refl _ _).alloc (Nat.le_refl _) _).trans (h.2.mono (by simp))⟩⟩
   have K3 := Aside0.mk (K3.out W2 (pl_next BA.out C2.out))
   clear h1
   go_wp2_with (first | ((with_reducible refine gate_dst (N := 16) rfl ?_); refine py_load rfl 29 (.tmp 3) rfl ⟨w.heap.size, 0, none⟩ rfl _ _ (Q0.out _ C2.out) hu rfl py_info ?_) | ((with_reducible refine gate_dst (N := 17) rfl ?_); refine py_load rfl 29 (.tmp 4) rfl ⟨w.heap.size + 1, 0, none⟩ rfl _ _ (Q1.out _ C2.out) hu rfl py_info ?_) | (go_at_call 6; (with_reducible refine (K3.out).mono ?_)))
   rintro e W3 ⟨rfl, hB⟩
   have C3 : Aside0 (Below WA.heap.size WA W3) := ⟨pl_next C2.out hB⟩
   clear hB C2 K3
   cases c with
   | false =>
    clear HH3 HHR Q0 Q1 hu Z0 Z1 HG HZ
    go_wp2
    go_ret
    exact ⟨rfl, pl_next BA.out C3.out⟩
   | true =>
    have h := HH3.out
    rw [if_pos rfl] at h
    have HH4 := Aside0.mk h
    clear h HH3
    go_upto_region 6 with (first | ((with_reducible refine gate_dst (N := 21) rfl ?_); refine py_load rfl 29 (.tmp 3) rfl ⟨w.heap.size, 0, none⟩ rfl _ _ (Q0.out _ C3.out) hu rfl py_info ?_) | ((with_reducible refine gate_store (t := 29) (p := 7) rfl ?_); refine wpList_store_mid rfl 29 (.tmp 7) (.tmp 21) rfl W3.heap.size 0 #[.bool a0_0, .string a0_1, .slice A0_2 n0_2 c0_2, .bool a0_3, .string a0_4, .bool a0_5, .string a0_6, .bool a0_7, .string a0_8, .bool a0_9, .string a0_10, .bool a0_11, .string a0_12, .bool a0_13, .string a0_14, .slice A0_15 n0_15 c0_15, .slice A0_16 n0_16 c0_16] rfl rfl (py_there (blk_new W3 _) rfl) py_info (all_oneCell_toArray (by simp [Value.oneCell'])) ?_))
    obtain ⟨WZ, hWZ⟩ : ∃ WZ, WZ = W3.alloc (.cells #[.bool false, .string ⟨#[]⟩, .slice none 0 0, .bool false, .string ⟨#[]⟩, .bool false, .string ⟨#[]⟩, .bool false, .string ⟨#[]⟩, .bool false, .string ⟨#[]⟩, .bool false, .string ⟨#[]⟩, .bool false, .string ⟨#[]⟩, .slice none 0 0, .slice none 0 0] 29) := ⟨_, rfl⟩
    have z0 : WZ.heap[W3.heap.size]? = some (.cells #[.bool false, .string ⟨#[]⟩, .slice none 0 0, .bool false, .string ⟨#[]⟩, .bool false, .string ⟨#[]⟩, .bool false, .string ⟨#[]⟩, .bool false, .string ⟨#[]⟩, .bool false, .string ⟨#[]⟩, .bool false, .string ⟨#[]⟩, .slice none 0 0, .slice none 0 0] 29 (0, 0)) := by rw [hWZ]; exact blk_new _ _
    have B9 : Below W3.heap.size W3 WZ := by rw [hWZ]; exact (Below.refl _ _).alloc (Nat.le_refl _) _
    obtain ⟨WB, hWB⟩ : ∃ WB, WB = WZ.setCells W3.heap.size 0 [.bool a0_0, .string a0_1, .slice A0_2 n0_2 c0_2, .bool a0_3, .string a0_4, .bool a0_5, .string a0_6, .bool a0_7, .string a0_8, .bool a0_9, .string a0_10, .bool a0_11, .string a0_12, .bool a0_13, .string a0_14, .slice A0_15 n0_15 c0_15, .slice A0_16 n0_16 c0_16] := ⟨_, rfl⟩
    have z1 : WB.heap[W3.heap.size]? = some (.cells #[.bool a0_0, .string a0_1, .slice A0_2 n0_2 c0_2, .bool a0_3, .string a0_4, .bool a0_5, .string a0_6, .bool a0_7, .string a0_8, .bool a0_9, .string a0_10, .bool a0_11, .string a0_12, .bool a0_13, .string a0_14, .slice A0_15 n0_15 c0_15, .slice A0_16 n0_16 c0_16] 29 (0, 0)) := by rw [hWB]; exact py_put_blk z0 rfl
    have bb : Below W3.heap.size W3 WB := by rw [hWB]; exact py_put_below (Nat.le_refl _) _ _ _ B9
    have e1 : (#[.bool a0_0, .string a0_1, .slice A0_2 n0_2 c0_2, .bool a0_3, .string a0_4, .bool a0_5, .string a0_6, .bool a0_7, .string a0_8, .bool a0_9, .string a0_10, .bool a0_11, .string a0_12, .bool a0_13, .string a0_14, .slice A0_15 n0_15 c0_15, .slice A0_16 n0_16 c0_16] : Array Value).toList = [.bool a0_0, .string a0_1, .slice A0_2 n0_2 c0_2, .bool a0_3, .string a0_4, .bool a0_5, .string a0_6, .bool a0_7, .string a0_8, .bool a0_9, .string a0_10, .bool a0_11, .string a0_12, .bool a0_13, .string a0_14, .slice A0_15 n0_15 c0_15, .slice A0_16 n0_16 c0_16] := rfl
    rw [← hWZ, ← hWB]
    have y0 : WB.heap[w.heap.size]? = some (.cells #[.bool a0_0, .string a0_1, .slice A0_2 n0_2 c0_2, .bool a0_3, .string a0_4, .bool a0_5, .string a0_6, .bool a0_7, .string a0_8, .bool a0_9, .string a0_10, .bool a0_11, .string a0_12, .bool a0_13, .string a0_14, .slice A0_15 n0_15 c0_15, .slice A0_16 n0_16 c0_16] 29 (0, 0)) := pl_keep (pl_next C3.out bb) Z0.out
    have y1 : WB.heap[w.heap.size + 1]? = some (.cells #[.bool a1_0, .string a1_1, .slice A1_2 n1_2 c1_2, .bool a1_3, .string a1_4, .bool a1_5, .string a1_6, .bool a1_7, .string a1_8, .bool a1_9, .string a1_10, .bool a1_11, .string a1_12, .bool a1_13, .string a1_14, .slice A1_15 n1_15 c1_15, .slice A1_16 n1_16 c1_16] 29 (0, 0)) := pl_keep (pl_next C3.out bb) Z1.out
    obtain ⟨g, hg⟩ : ∃ g, g = W3.heap.size := ⟨_, rfl⟩
    rw [← hg] at z1 ⊢
    have hgw : g < WB.heap.size := (Array.getElem?_eq_some_iff.1 z1).1
    have hgl : w.heap.size + 2 ≤ g := by
     have s1 := (Array.getElem?_eq_some_iff.1 Z1.out).1
     have s2 := C3.out.size
     omega
    have HBW : Aside0 (Below w.heap.size w WB) := ⟨pl_next BA.out (pl_next C3.out bb)⟩
    clear hWB hWZ z0 B9 e1 bb hg C3 Z0 Z1 Q0 Q1 hu BA
    have HS : Aside0 (g < WB.heap.size ∧ w.heap.size + 2 ≤ g) := ⟨hgw, hgl⟩
    have k2 : WB.cell? ⟨w.heap.size, 2, none⟩ = some (.slice A0_2 n0_2 c0_2) := (blk_cell y0 2).trans rfl
    have Y0 := Aside0.mk y0
    have Y1 := Aside0.mk y1
    have Y2 := Aside0.mk z1
    clear y0 y1 z1 hgw hgl
    have HLEN : Aside0 (l0_2.length ≤ 1000) := ⟨by
     have h := HH4.out
     obtain ⟨d, h1, h⟩ := Option.bind_eq_some_iff.1 h
     by_cases e : d = true
     ·rw [if_pos e] at h
      obtain ⟨r, h1, h⟩ := Option.bind_eq_some_iff.1 h
      by_cases e : r = 0
      ·rw [if_pos e] at h
       obtain ⟨s, h1, h⟩ := Option.bind_eq_some_iff.1 h
       obtain ⟨t, h1, h⟩ := Option.bind_eq_some_iff.1 h
       by_cases e : s = t
       ·rw [if_pos e] at h
        by_cases e : l0_2.length ≤ 1000
        ·exact e
        ·rw [if_neg e] at h; cases h
       ·rw [if_neg e] at h; cases h
      ·rw [if_neg e] at h; cases h
     ·rw [if_neg e] at h; cases h⟩
    have HRR : Aside0 (Kd.C k23 WB A0_2 n0_2 l0_2) := ⟨by
     obtain ⟨⟨⟨hr0_2, hc0_2⟩, ⟨hr0_15, hc0_15⟩, ⟨hr0_16, hc0_16⟩, ⟨hr1_2, hc1_2⟩, ⟨hr1_15, hc1_15⟩, ⟨hr1_16, hc1_16⟩⟩, hn0_2, hn0_15, hn0_16, hn1_2, hn1_15, hn1_16⟩ := HHR.out
     rw [hn0_2]
     exact Kd.C_below hr0_2 HBW.out⟩
    have HNL : Aside0 (n0_2 = l0_2.length) := ⟨by
     obtain ⟨⟨⟨hr0_2, hc0_2⟩, ⟨hr0_15, hc0_15⟩, ⟨hr0_16, hc0_16⟩, ⟨hr1_2, hc1_2⟩, ⟨hr1_15, hc1_15⟩, ⟨hr1_16, hc1_16⟩⟩, hn0_2, hn0_15, hn0_16, hn1_2, hn1_15, hn1_16⟩ := HHR.out
     exact hn0_2⟩
    go_wp2_with ((with_reducible refine gate_builtin (b := .append) (xs := #[.const (.slice none 0 0), .tmp 23]) rfl ?_); at_builtin; refine Kd.R_append_rows k23 (w0 := WB) WB.heap.size rfl (.const (.slice none 0 0)) (.tmp 23) 24 23 (.agg #[(.bool false), (.string ⟨#[]⟩)]) 24 rfl Tryz.underlying24 pf_info rfl (by decide) (by omega) (.slice none 0 0) ([] : List S23) l0_2 A0_2 n0_2 c0_2 (fun _ => True) (fun _ => False) rfl rfl (Kd.R_nil _ _ _ _ _) HRR.out (fun _ _ h => h) (fun _ h => h.elim) (fun _ _ => trivial) (Below.refl _ _) (Nat.le_refl _) (by have := HLEN.out; have := HNL.out; simp only [List.length_nil]; omega) ?_)
   
    intro v4 W4 ho hb hgr hat
    clear hgr hat k2
    replace ho : Kd.R k23 23 W4 WB.heap.size (fun _ => True) v4 l0_2 := ho
    obtain ⟨X, c, e⟩ := Kd.R_slice ho
    subst e
    obtain ⟨m, hm⟩ : ∃ m, m = l0_2.length := ⟨_, rfl⟩
    rw [← hm] at ho ⊢
    have V0 := Aside0.mk (pl_keep hb Y0.out)
    have V1 := Aside0.mk (pl_keep hb Y1.out)
    have V2 := Aside0.mk (pl_keep hb Y2.out)
    have HO := Aside0.mk ho
    have HB4 := Aside0.mk (pl_next HBW.out hb)
    have HZ4 := Aside0.mk hb.size
    clear ho hb hm Y0 Y1 Y2 HRR HNL HBW
    have c2 : W4.cell? ⟨g, 2, none⟩ = some (.slice A0_2 n0_2 c0_2) := (blk_cell V2.out 2).trans rfl
    have f2 := blk_frozen V2.out 2
    go_wp2
    go_loopw [27] (fun v27 wr => ∃ (i : Nat) (X : Option Addr) (m c : Nat), v27 = .int .u8 (i : Int) ∧ Aside0 (i ≤ nz) ∧ Aside0 (wr.heap[w.heap.size]? = some (.cells #[.bool a0_0, .string a0_1, .slice A0_2 n0_2 c0_2, .bool a0_3, .string a0_4, .bool a0_5, .string a0_6, .bool a0_7, .string a0_8, .bool a0_9, .string a0_10, .bool a0_11, .string a0_12, .bool a0_13, .string a0_14, .slice A0_15 n0_15 c0_15, .slice A0_16 n0_16 c0_16] 29 (0, 0))) ∧ Aside0 (wr.heap[w.heap.size + 1]? = some (.cells #[.bool a1_0, .string a1_1, .slice A1_2 n1_2 c1_2, .bool a1_3, .string a1_4, .bool a1_5, .string a1_6, .bool a1_7, .string a1_8, .bool a1_9, .string a1_10, .bool a1_11, .string a1_12, .bool a1_13, .string a1_14, .slice A1_15 n1_15 c1_15, .slice A1_16 n1_16 c1_16] 29 (0, 0))) ∧ Aside0 (wr.heap[g]? = some (.cells #[.bool a0_0, .string a0_1, .slice X m c, .bool a0_3, .string a0_4, .bool a0_5, .string a0_6, .bool a0_7, .string a0_8, .bool a0_9, .string a0_10, .bool a0_11, .string a0_12, .bool a0_13, .string a0_14, .slice A0_15 n0_15 c0_15, .slice A0_16 n0_16 c0_16] 29 (0, 0))) ∧ Aside0 (Kd.R k23 23 wr WB.heap.size (fun _ => True) (.slice X m c) (l0_2 ++ List.replicate i (⟨false, ⟨#[]⟩⟩ : S23))) ∧ Aside0 (Below w.heap.size w wr) ∧ Aside0 (WB.heap.size ≤ wr.heap.size)) (fun v27 wr => nz - pfI v27)
    case atStart =>
     refine ⟨0, X, m, c, rfl, ⟨Nat.zero_le _⟩, ⟨blk_far V0.out (by have := HS.out; show w.heap.size ≠ g; omega) _⟩, ⟨blk_far V1.out (by have := HS.out; show w.heap.size + 1 ≠ g; omega) _⟩, ⟨blk_put V2.out 2 _ rfl⟩, ⟨?_⟩, ⟨HB4.out.setCell (p := ⟨g, 2, none⟩) (by have := HS.out; show w.heap.size ≤ g; omega) _⟩, ⟨?_⟩⟩
     ·rw [List.replicate_zero, List.append_nil]
      exact pf_R_set HO.out HS.out.1
     ·have := HZ4.out
      simpa [World.setCell] using this
    case round =>
     clear HO V0 V1 V2 HB4 HZ4 c2 f2
     obtain ⟨i, X, m, c, rfl, HI, V0, V1, V2, HO, HB, HZZ⟩ := hrel
     have k2 : wr.cell? ⟨g, 2, none⟩ = some (.slice X m c) := (blk_cell V2.out 2).trans rfl
     by_cases h : i < nz
     ·have hd : decide ((i : Int) < (nz : Int)) = true := decide_eq_true (by omega)
      have h := Aside0.mk h
      go_wp2_with ((with_reducible refine gate_builtin (b := .append) (xs := #[.tmp 30, .tmp 32]) rfl ?_); at_builtin; refine Kd.R_append k23 (w0 := wr) WB.heap.size rfl (.tmp 30) (.tmp 32) 24 23 (.agg #[(.bool false), (.string ⟨#[]⟩)]) 24 rfl Tryz.underlying24 pf_info rfl (by decide) (by omega) (.slice X m c) (l0_2 ++ List.replicate i (⟨false, ⟨#[]⟩⟩ : S23)) (⟨false, ⟨#[]⟩⟩ : S23) [.bool false, .string ⟨#[]⟩] (fun _ => True) (fun _ => False) rfl rfl (show Kd.M k23 _ _ _ ((⟨false, ⟨#[]⟩⟩ : S23)) [.bool false, .string ⟨#[]⟩] from (k23_mkM _ _ _ ((⟨false, ⟨#[]⟩⟩ : S23)))) (fun _ h => h.elim) (fun _ _ => trivial) HO.out (Below.refl _ _) HZZ.out (by have := HLEN.out; have := HZ.out; have := HI.out; simp only [List.length_append, List.length_replicate]; omega) ?_)
      intro v1 W1 ho hb hgr hat
      clear hgr hat k2
      replace ho : Kd.R k23 23 W1 WB.heap.size (fun _ => True) v1 (l0_2 ++ List.replicate (i + 1) (⟨false, ⟨#[]⟩⟩ : S23)) := by rw [List.replicate_succ']; exact ho
      obtain ⟨X', c', e⟩ := Kd.R_slice ho
      subst e
      obtain ⟨m', hm'⟩ : ∃ m', m' = (l0_2 ++ List.replicate (i + 1) (⟨false, ⟨#[]⟩⟩ : S23)).length := ⟨_, rfl⟩
      rw [← hm'] at ho ⊢
      have T0 := Aside0.mk ((hb.block w.heap.size (by have := HS.out; omega)).trans V0.out)
      have T1 := Aside0.mk ((hb.block (w.heap.size + 1) (by have := HS.out; omega)).trans V1.out)
      have T2 := Aside0.mk ((hb.block g HS.out.1).trans V2.out)
      have HB1 : Aside0 (Below w.heap.size w W1) := ⟨HB.out.trans (hb.mono (by have := HS.out; omega))⟩
      have HZ1 : Aside0 (WB.heap.size ≤ W1.heap.size) := ⟨Nat.le_trans HZZ.out hb.size⟩
      have HO1 := Aside0.mk ho
      have c2 : W1.cell? ⟨g, 2, none⟩ = some (.slice X m c) := (blk_cell T2.out 2).trans rfl
      have f2 := blk_frozen T2.out 2
      clear ho hb hm' HO V0 V1 V2 HB
      go_wp2
      go_roundw
      case rel =>
       refine ⟨i + 1, X', m', c', ?_, ⟨h.out⟩, ⟨blk_far T0.out (by have := HS.out; show w.heap.size ≠ g; omega) _⟩, ⟨blk_far T1.out (by have := HS.out; show w.heap.size + 1 ≠ g; omega) _⟩, ⟨blk_put T2.out 2 _ rfl⟩, ⟨pf_R_set HO1.out HS.out.1⟩, ⟨HB1.out.setCell (p := ⟨g, 2, none⟩) (by have := HS.out; show w.heap.size ≤ g; omega) _⟩, ⟨?_⟩⟩
       ·have := h.out
        have := HZ.out
        first | rfl | (congr 1; omega) | (simp; omega)
       ·have := HZ1.out
        simpa [World.setCell] using this
      case measure =>
       have := h.out
       have := HZ.out
       show nz - pfI _ < nz - pfI _
       simp only [pfI]
       omega
     ·have hd : decide ((i : Int) < (nz : Int)) = false := decide_eq_false (by omega)
      obtain rfl : nz = i := by have := HI.out; omega
      have h5 := HH4.out
      clear HH4 h HI
      obtain ⟨d, d1, h5⟩ := Option.bind_eq_some_iff.1 h5
      cases d with
      | false => rw [if_neg (by decide)] at h5; cases h5
      | true =>
      rw [if_pos rfl] at h5
      obtain ⟨r, r1, h5⟩ := Option.bind_eq_some_iff.1 h5
      by_cases r0 : r = 0
      case neg => rw [if_neg r0] at h5; cases h5
      subst r0
      rw [if_pos rfl] at h5
      obtain ⟨s, s1, h5⟩ := Option.bind_eq_some_iff.1 h5
      obtain ⟨t, t1, h5⟩ := Option.bind_eq_some_iff.1 h5
      by_cases e : s = t
      case neg => rw [if_neg e] at h5; cases h5
      subst e
      clear h5
      have KA : Aside0 (∀ W, Below w.heap.size w W → Calls Tryz.prog 10 #[] W fun e w' => e = .returned (.bool true) ∧ Below W.heap.size W w') := ⟨fun W hB => py_awk_calls k W (GW.below HG.out hB) d1⟩
      have KX : Aside0 (∀ W, Below wr.heap.size wr W → Below w.heap.size w W → Calls Tryz.prog 7 #[.agg #[.bool a0_0, .string a0_1, .slice X m c, .bool a0_3, .string a0_4, .bool a0_5, .string a0_6, .bool a0_7, .string a0_8, .bool a0_9, .string a0_10, .bool a0_11, .string a0_12, .bool a0_13, .string a0_14, .slice A0_15 n0_15 c0_15, .slice A0_16 n0_16 c0_16], .agg #[.bool a0_0, .string a0_1, .slice A0_2 n0_2 c0_2, .bool a0_3, .string a0_4, .bool a0_5, .string a0_6, .bool a0_7, .string a0_8, .bool a0_9, .string a0_10, .bool a0_11, .string a0_12, .bool a0_13, .string a0_14, .slice A0_15 n0_15 c0_15, .slice A0_16 n0_16 c0_16]] W fun e w' => e = .returned (.int .i64 0) ∧ Below W.heap.size W w') := ⟨fun W hX hB => by
       obtain ⟨⟨⟨hr0_2, hc0_2⟩, ⟨hr0_15, hc0_15⟩, ⟨hr0_16, hc0_16⟩, ⟨hr1_2, hc1_2⟩, ⟨hr1_15, hc1_15⟩, ⟨hr1_16, hc1_16⟩⟩, hn0_2, hn0_15, hn0_16, hn1_2, hn1_15, hn1_16⟩ := HHR.out
       have hx := Kd.R_reads' HO.out
       have := impl_PyPICompare.calls k a0_0 a0_1 X c (l0_2 ++ List.replicate nz (⟨false, ⟨#[]⟩⟩ : S23)) a0_3 a0_4 a0_5 a0_6 a0_7 a0_8 a0_9 a0_10 a0_11 a0_12 a0_13 a0_14 A0_15 c0_15 l0_15 A0_16 c0_16 l0_16 a0_0 a0_1 A0_2 c0_2 l0_2 a0_3 a0_4 a0_5 a0_6 a0_7 a0_8 a0_9 a0_10 a0_11 a0_12 a0_13 a0_14 A0_15 c0_15 l0_15 A0_16 c0_16 l0_16 0 W (Kd.C_below hx.2.2 hX) (hx.1 ▸ hx.2.1) (Kd.C_below hr0_15 hB) hc0_15 (Kd.C_below hr0_16 hB) hc0_16 (Kd.C_below hr0_2 hB) hc0_2 (Kd.C_below hr0_15 hB) hc0_15 (Kd.C_below hr0_16 hB) hc0_16 (GW.below HG.out hB) r1
       rw [← hx.1] at this
       simp only [← hn0_2, ← hn0_15, ← hn0_16, ← hn1_2, ← hn1_15, ← hn1_16] at this
       exact this⟩
      have KY : Aside0 (∀ W, Below wr.heap.size wr W → Below w.heap.size w W → Calls Tryz.prog 7 #[.agg #[.bool a0_0, .string a0_1, .slice X m c, .bool a0_3, .string a0_4, .bool a0_5, .string a0_6, .bool a0_7, .string a0_8, .bool a0_9, .string a0_10, .bool a0_11, .string a0_12, .bool a0_13, .string a0_14, .slice A0_15 n0_15 c0_15, .slice A0_16 n0_16 c0_16], .agg #[.bool a1_0, .string a1_1, .slice A1_2 n1_2 c1_2, .bool a1_3, .string a1_4, .bool a1_5, .string a1_6, .bool a1_7, .string a1_8, .bool a1_9, .string a1_10, .bool a1_11, .string a1_12, .bool a1_13, .string a1_14, .slice A1_15 n1_15 c1_15, .slice A1_16 n1_16 c1_16]] W fun e w' => e = .returned (.int .i64 s) ∧ Below W.heap.size W w') := ⟨fun W hX hB => by
       obtain ⟨⟨⟨hr0_2, hc0_2⟩, ⟨hr0_15, hc0_15⟩, ⟨hr0_16, hc0_16⟩, ⟨hr1_2, hc1_2⟩, ⟨hr1_15, hc1_15⟩, ⟨hr1_16, hc1_16⟩⟩, hn0_2, hn0_15, hn0_16, hn1_2, hn1_15, hn1_16⟩ := HHR.out
       have hx := Kd.R_reads' HO.out
       have := impl_PyPICompare.calls k a0_0 a0_1 X c (l0_2 ++ List.replicate nz (⟨false, ⟨#[]⟩⟩ : S23)) a0_3 a0_4 a0_5 a0_6 a0_7 a0_8 a0_9 a0_10 a0_11 a0_12 a0_13 a0_14 A0_15 c0_15 l0_15 A0_16 c0_16 l0_16 a1_0 a1_1 A1_2 c1_2 l1_2 a1_3 a1_4 a1_5 a1_6 a1_7 a1_8 a1_9 a1_10 a1_11 a1_12 a1_13 a1_14 A1_15 c1_15 l1_15 A1_16 c1_16 l1_16 s W (Kd.C_below hx.2.2 hX) (hx.1 ▸ hx.2.1) (Kd.C_below hr0_15 hB) hc0_15 (Kd.C_below hr0_16 hB) hc0_16 (Kd.C_below hr1_2 hB) hc1_2 (Kd.C_below hr1_15 hB) hc1_15 (Kd.C_below hr1_16 hB) hc1_16 (GW.below HG.out hB) s1
       rw [← hx.1] at this
       simp only [← hn0_2, ← hn0_15, ← hn0_16, ← hn1_2, ← hn1_15, ← hn1_16] at this
       exact this⟩
      have KZ : Aside0 (∀ W, Below w.heap.size w W → Calls Tryz.prog 7 #[.agg #[.bool a0_0, .string a0_1, .slice A0_2 n0_2 c0_2, .bool a0_3, .string a0_4, .bool a0_5, .string a0_6, .bool a0_7, .string a0_8, .bool a0_9, .string a0_10, .bool a0_11, .string a0_12, .bool a0_13, .string a0_14, .slice A0_15 n0_15 c0_15, .slice A0_16 n0_16 c0_16], .agg #[.bool a1_0, .string a1_1, .slice A1_2 n1_2 c1_2, .bool a1_3, .string a1_4, .bool a1_5, .string a1_6, .bool a1_7, .string a1_8, .bool a1_9, .string a1_10, .bool a1_11, .string a1_12, .bool a1_13, .string a1_14, .slice A1_15 n1_15 c1_15, .slice A1_16 n1_16 c1_16]] W fun e w' => e = .returned (.int .i64 s) ∧ Below W.heap.size W w') := ⟨fun W hB => by
       obtain ⟨⟨⟨hr0_2, hc0_2⟩, ⟨hr0_15, hc0_15⟩, ⟨hr0_16, hc0_16⟩, ⟨hr1_2, hc1_2⟩, ⟨hr1_15, hc1_15⟩, ⟨hr1_16, hc1_16⟩⟩, hn0_2, hn0_15, hn0_16, hn1_2, hn1_15, hn1_16⟩ := HHR.out
       have := impl_PyPICompare.calls k a0_0 a0_1 A0_2 c0_2 l0_2 a0_3 a0_4 a0_5 a0_6 a0_7 a0_8 a0_9 a0_10 a0_11 a0_12 a0_13 a0_14 A0_15 c0_15 l0_15 A0_16 c0_16 l0_16 a1_0 a1_1 A1_2 c1_2 l1_2 a1_3 a1_4 a1_5 a1_6 a1_7 a1_8 a1_9 a1_10 a1_11 a1_12 a1_13 a1_14 A1_15 c1_15 l1_15 A1_16 c1_16 l1_16 s W (Kd.C_below hr0_2 hB) hc0_2 (Kd.C_below hr0_15 hB) hc0_15 (Kd.C_below hr0_16 hB) hc0_16 (Kd.C_below hr1_2 hB) hc1_2 (Kd.C_below hr1_15 hB) hc1_15 (Kd.C_below hr1_16 hB) hc1_16 (GW.below HG.out hB) t1
       simp only [← hn0_2, ← hn0_15, ← hn0_16, ← hn1_2, ← hn1_15, ← hn1_16] at this
       exact this⟩
      have c0 := V0.out
      have c1 := V1.out
      have c2 := V2.out
      have hu := Tryz.underlying29
      clear d1
      have b0 := HB.out
      have x0 : Below wr.heap.size wr wr := Below.refl _ _
      clear r1 s1 t1 HHR HG HO HLEN HZ V0 V1 V2 HZZ k2 HB HS
      go_upto_region 11 with fail
      refine start_ (n := 17) (S := fun w' => Below wr.heap.size wr w') (ds := []) #[false, false, false, false, false, false, false, false, false, false, false, false, false, false, false, false, false] (by kernel_rfl) rfl rfl (below_drew x0) (fun hHeld => ?_)
      refine with_tabW pf_tab11 pf_bits11 (fun HT_ HW_ => ?_)
      generalize wr.drew = w52 at hHeld ⊢
      refine one_ (i := 0) (N := some 36) #[true, false, false, false, false, false, false, false, false, false, false, false, false, false, false, false, false] rfl rfl (one_of HT_.out (by kernel_rfl)) (by decide) (fun K hK => ?_)
      refine goes_ Tryz.func10 (by kernel_rfl) rfl #[] (by rfl) rfl rfl (by (try simp only [List.map_toArray, List.map_cons, List.map_nil]); first | done | rfl | (simp only [List.length_drop, List.length_take]; rfl)) ?_
      with_reducible refine (KA.out _ (pl_next b0 hHeld)).mono ?_
      rintro e w53 ⟨rfl, hb⟩
      refine ⟨_, rfl, ?_⟩
      have hN := pl_next hHeld hb
      clear hHeld hb
      refine hK.out _ _ hN (fun hHeld => ?_)
      clear hK K hN
      refine norm_ (a' := ?_) ?_ ?_
      rotate_left
      ·show Act.put _ (some 36) _ = _
       simp only [Act.put, List.setIfInBounds_toArray, List.set_cons_zero, List.set_cons_succ, i64_w, i32_w]
       rfl
      refine pure_ (i := 1) (N := some 37) (v := ?_) (a' := ?_) #[true, true, false, false, false, false, false, false, false, false, false, false, false, false, false, false, false] rfl rfl (any_of HT_.out (by kernel_rfl)) (fun _ _ _ h => h) (Or.inl ⟨by rfl, ?_⟩) ?_ ?_
      rotate_left
      ·intro w'
       go_simp
       with_reducible rfl
      rotate_left
      ·simp only [Act.put, List.setIfInBounds_toArray, List.set_cons_zero, List.set_cons_succ, i64_w, i32_w]
       rfl
      refine take_ (i := 2) (N := some 38) (v := .agg #[.bool a0_0, .string a0_1, .slice X m c, .bool a0_3, .string a0_4, .bool a0_5, .string a0_6, .bool a0_7, .string a0_8, .bool a0_9, .string a0_10, .bool a0_11, .string a0_12, .bool a0_13, .string a0_14, .slice A0_15 n0_15 c0_15, .slice A0_16 n0_16 c0_16]) (a' := ?_) #[true, true, true, false, false, false, false, false, false, false, false, false, false, false, false, false, false] rfl rfl (take_ofW HT_.out HW_.out (by kernel_rfl)) (fun _ _ _ h => h) (Or.inl ⟨by rfl, ?_⟩) hHeld ?_ ?_
      ·intro w' hw
       exact pf_run 29 (.tmp 7) rfl ⟨g, 0, none⟩ rfl [.bool a0_0, .string a0_1, .slice X m c, .bool a0_3, .string a0_4, .bool a0_5, .string a0_6, .bool a0_7, .string a0_8, .bool a0_9, .string a0_10, .bool a0_11, .string a0_12, .bool a0_13, .string a0_14, .slice A0_15 n0_15 c0_15, .slice A0_16 n0_16 c0_16] _ (fun j v hv => by rw [Addr.add_mid]; exact py_rng (cs := [.bool a0_0, .string a0_1, .slice X m c, .bool a0_3, .string a0_4, .bool a0_5, .string a0_6, .bool a0_7, .string a0_8, .bool a0_9, .string a0_10, .bool a0_11, .string a0_12, .bool a0_13, .string a0_14, .slice A0_15 n0_15 c0_15, .slice A0_16 n0_16 c0_16]) (pl_keep hw c2) j v hv) hu rfl py_info
      rotate_left
      ·simp only [Act.put, List.setIfInBounds_toArray, List.set_cons_zero, List.set_cons_succ, i64_w, i32_w]
       rfl
      refine take_ (i := 3) (N := some 39) (v := .agg #[.bool a0_0, .string a0_1, .slice A0_2 n0_2 c0_2, .bool a0_3, .string a0_4, .bool a0_5, .string a0_6, .bool a0_7, .string a0_8, .bool a0_9, .string a0_10, .bool a0_11, .string a0_12, .bool a0_13, .string a0_14, .slice A0_15 n0_15 c0_15, .slice A0_16 n0_16 c0_16]) (a' := ?_) #[true, true, true, true, false, false, false, false, false, false, false, false, false, false, false, false, false] rfl rfl (take_ofW HT_.out HW_.out (by kernel_rfl)) (fun _ _ _ h => h) (Or.inl ⟨by rfl, ?_⟩) hHeld ?_ ?_
      ·intro w' hw
       exact pf_run 29 (.tmp 3) rfl ⟨w.heap.size, 0, none⟩ rfl [.bool a0_0, .string a0_1, .slice A0_2 n0_2 c0_2, .bool a0_3, .string a0_4, .bool a0_5, .string a0_6, .bool a0_7, .string a0_8, .bool a0_9, .string a0_10, .bool a0_11, .string a0_12, .bool a0_13, .string a0_14, .slice A0_15 n0_15 c0_15, .slice A0_16 n0_16 c0_16] _ (fun j v hv => by rw [Addr.add_mid]; exact py_rng (cs := [.bool a0_0, .string a0_1, .slice A0_2 n0_2 c0_2, .bool a0_3, .string a0_4, .bool a0_5, .string a0_6, .bool a0_7, .string a0_8, .bool a0_9, .string a0_10, .bool a0_11, .string a0_12, .bool a0_13, .string a0_14, .slice A0_15 n0_15 c0_15, .slice A0_16 n0_16 c0_16]) (pl_keep hw c0) j v hv) hu rfl py_info
      rotate_left
      ·simp only [Act.put, List.setIfInBounds_toArray, List.set_cons_zero, List.set_cons_succ, i64_w, i32_w]
       rfl
      refine one_ (i := 4) (N := some 40) #[true, true, true, true, true, false, false, false, false, false, false, false, false, false, false, false, false] rfl rfl (one_of HT_.out (by kernel_rfl)) (by decide) (fun K hK => ?_)
      refine goes_ Tryz.func7 (by kernel_rfl) rfl #[.agg #[.bool a0_0, .string a0_1, .slice X m c, .bool a0_3, .string a0_4, .bool a0_5, .string a0_6, .bool a0_7, .string a0_8, .bool a0_9, .string a0_10, .bool a0_11, .string a0_12, .bool a0_13, .string a0_14, .slice A0_15 n0_15 c0_15, .slice A0_16 n0_16 c0_16], .agg #[.bool a0_0, .string a0_1, .slice A0_2 n0_2 c0_2, .bool a0_3, .string a0_4, .bool a0_5, .string a0_6, .bool a0_7, .string a0_8, .bool a0_9, .string a0_10, .bool a0_11, .string a0_12, .bool a0_13, .string a0_14, .slice A0_15 n0_15 c0_15, .slice A0_16 n0_16 c0_16]] (by rfl) rfl rfl (by (try simp only [List.map_toArray, List.map_cons, List.map_nil]); first | done | rfl | (simp only [List.length_drop, List.length_take]; rfl)) ?_
      with_reducible refine (KX.out _ hHeld (pl_next b0 hHeld)).mono ?_
      rintro e w54 ⟨rfl, hb⟩
      refine ⟨_, rfl, ?_⟩
      have hN := pl_next hHeld hb
      clear hHeld hb
      refine hK.out _ _ hN (fun hHeld => ?_)
      clear hK K hN
      refine norm_ (a' := ?_) ?_ ?_
      rotate_left
      ·show Act.put _ (some 40) _ = _
       simp only [Act.put, List.setIfInBounds_toArray, List.set_cons_zero, List.set_cons_succ, i64_w, i32_w]
       rfl
      refine pure_ (i := 5) (N := some 41) (v := ?_) (a' := ?_) #[true, true, true, true, true, true, false, false, false, false, false, false, false, false, false, false, false] rfl rfl (any_of HT_.out (by kernel_rfl)) (fun _ _ _ h => h) (Or.inl ⟨by rfl, ?_⟩) ?_ ?_
      rotate_left
      ·intro w'
       go_simp
       with_reducible rfl
      rotate_left
      ·simp only [Act.put, List.setIfInBounds_toArray, List.set_cons_zero, List.set_cons_succ, i64_w, i32_w]
       rfl
      refine pure_ (i := 6) (N := some 42) (v := ?_) (a' := ?_) #[true, true, true, true, true, true, true, false, false, false, false, false, false, false, false, false, false] rfl rfl (any_of HT_.out (by kernel_rfl)) (fun _ _ _ h => h) (Or.inl ⟨by rfl, ?_⟩) ?_ ?_
      rotate_left
      ·intro w'
       go_simp
       with_reducible rfl
      rotate_left
      ·simp only [Act.put, List.setIfInBounds_toArray, List.set_cons_zero, List.set_cons_succ, i64_w, i32_w]
       rfl
      refine pure_ (i := 7) (N := some 43) (v := ?_) (a' := ?_) #[true, true, true, true, true, true, true, true, false, false, false, false, false, false, false, false, false] rfl rfl (any_of HT_.out (by kernel_rfl)) (fun _ _ _ h => h) (Or.inl ⟨by rfl, ?_⟩) ?_ ?_
      rotate_left
      ·intro w'
       go_simp
       with_reducible rfl
      rotate_left
      ·simp only [Act.put, List.setIfInBounds_toArray, List.set_cons_zero, List.set_cons_succ, i64_w, i32_w]
       rfl
      refine take_ (i := 8) (N := some 44) (v := .agg #[.bool a0_0, .string a0_1, .slice X m c, .bool a0_3, .string a0_4, .bool a0_5, .string a0_6, .bool a0_7, .string a0_8, .bool a0_9, .string a0_10, .bool a0_11, .string a0_12, .bool a0_13, .string a0_14, .slice A0_15 n0_15 c0_15, .slice A0_16 n0_16 c0_16]) (a' := ?_) #[true, true, true, true, true, true, true, true, true, false, false, false, false, false, false, false, false] rfl rfl (take_ofW HT_.out HW_.out (by kernel_rfl)) (fun _ _ _ h => h) (Or.inl ⟨by rfl, ?_⟩) hHeld ?_ ?_
      ·intro w' hw
       exact pf_run 29 (.tmp 7) rfl ⟨g, 0, none⟩ rfl [.bool a0_0, .string a0_1, .slice X m c, .bool a0_3, .string a0_4, .bool a0_5, .string a0_6, .bool a0_7, .string a0_8, .bool a0_9, .string a0_10, .bool a0_11, .string a0_12, .bool a0_13, .string a0_14, .slice A0_15 n0_15 c0_15, .slice A0_16 n0_16 c0_16] _ (fun j v hv => by rw [Addr.add_mid]; exact py_rng (cs := [.bool a0_0, .string a0_1, .slice X m c, .bool a0_3, .string a0_4, .bool a0_5, .string a0_6, .bool a0_7, .string a0_8, .bool a0_9, .string a0_10, .bool a0_11, .string a0_12, .bool a0_13, .string a0_14, .slice A0_15 n0_15 c0_15, .slice A0_16 n0_16 c0_16]) (pl_keep hw c2) j v hv) hu rfl py_info
      rotate_left
      ·simp only [Act.put, List.setIfInBounds_toArray, List.set_cons_zero, List.set_cons_succ, i64_w, i32_w]
       rfl
      refine take_ (i := 9) (N := some 45) (v := .agg #[.bool a1_0, .string a1_1, .slice A1_2 n1_2 c1_2, .bool a1_3, .string a1_4, .bool a1_5, .string a1_6, .bool a1_7, .string a1_8, .bool a1_9, .string a1_10, .bool a1_11, .string a1_12, .bool a1_13, .string a1_14, .slice A1_15 n1_15 c1_15, .slice A1_16 n1_16 c1_16]) (a' := ?_) #[true, true, true, true, true, true, true, true, true, true, false, false, false, false, false, false, false] rfl rfl (take_ofW HT_.out HW_.out (by kernel_rfl)) (fun _ _ _ h => h) (Or.inl ⟨by rfl, ?_⟩) hHeld ?_ ?_
      ·intro w' hw
       exact pf_run 29 (.tmp 4) rfl ⟨w.heap.size + 1, 0, none⟩ rfl [.bool a1_0, .string a1_1, .slice A1_2 n1_2 c1_2, .bool a1_3, .string a1_4, .bool a1_5, .string a1_6, .bool a1_7, .string a1_8, .bool a1_9, .string a1_10, .bool a1_11, .string a1_12, .bool a1_13, .string a1_14, .slice A1_15 n1_15 c1_15, .slice A1_16 n1_16 c1_16] _ (fun j v hv => by rw [Addr.add_mid]; exact py_rng (cs := [.bool a1_0, .string a1_1, .slice A1_2 n1_2 c1_2, .bool a1_3, .string a1_4, .bool a1_5, .string a1_6, .bool a1_7, .string a1_8, .bool a1_9, .string a1_10, .bool a1_11, .string a1_12, .bool a1_13, .string a1_14, .slice A1_15 n1_15 c1_15, .slice A1_16 n1_16 c1_16]) (pl_keep hw c1) j v hv) hu rfl py_info
      rotate_left
      ·simp only [Act.put, List.setIfInBounds_toArray, List.set_cons_zero, List.set_cons_succ, i64_w, i32_w]
       rfl
      refine take_ (i := 11) (N := some 47) (v := .agg #[.bool a0_0, .string a0_1, .slice A0_2 n0_2 c0_2, .bool a0_3, .string a0_4, .bool a0_5, .string a0_6, .bool a0_7, .string a0_8, .bool a0_9, .string a0_10, .bool a0_11, .string a0_12, .bool a0_13, .string a0_14, .slice A0_15 n0_15 c0_15, .slice A0_16 n0_16 c0_16]) (a' := ?_) #[true, true, true, true, true, true, true, true, true, true, false, true, false, false, false, false, false] rfl rfl (take_ofW HT_.out HW_.out (by kernel_rfl)) (fun _ _ _ h => h) (Or.inl ⟨by rfl, ?_⟩) hHeld ?_ ?_
      ·intro w' hw
       exact pf_run 29 (.tmp 3) rfl ⟨w.heap.size, 0, none⟩ rfl [.bool a0_0, .string a0_1, .slice A0_2 n0_2 c0_2, .bool a0_3, .string a0_4, .bool a0_5, .string a0_6, .bool a0_7, .string a0_8, .bool a0_9, .string a0_10, .bool a0_11, .string a0_12, .bool a0_13, .string a0_14, .slice A0_15 n0_15 c0_15, .slice A0_16 n0_16 c0_16] _ (fun j v hv => by rw [Addr.add_mid]; exact py_rng (cs := [.bool a0_0, .string a0_1, .slice A0_2 n0_2 c0_2, .bool a0_3, .string a0_4, .bool a0_5, .string a0_6, .bool a0_7, .string a0_8, .bool a0_9, .string a0_10, .bool a0_11, .string a0_12, .bool a0_13, .string a0_14, .slice A0_15 n0_15 c0_15, .slice A0_16 n0_16 c0_16]) (pl_keep hw c0) j v hv) hu rfl py_info
      rotate_left
      ·simp only [Act.put, List.setIfInBounds_toArray, List.set_cons_zero, List.set_cons_succ, i64_w, i32_w]
       rfl
      refine take_ (i := 12) (N := some 48) (v := .agg #[.bool a1_0, .string a1_1, .slice A1_2 n1_2 c1_2, .bool a1_3, .string a1_4, .bool a1_5, .string a1_6, .bool a1_7, .string a1_8, .bool a1_9, .string a1_10, .bool a1_11, .string a1_12, .bool a1_13, .string a1_14, .slice A1_15 n1_15 c1_15, .slice A1_16 n1_16 c1_16]) (a' := ?_) #[true, true, true, true, true, true, true, true, true, true, false, true, true, false, false, false, false] rfl rfl (take_ofW HT_.out HW_.out (by kernel_rfl)) (fun _ _ _ h => h) (Or.inl ⟨by rfl, ?_⟩) hHeld ?_ ?_
      ·intro w' hw
       exact pf_run 29 (.tmp 4) rfl ⟨w.heap.size + 1, 0, none⟩ rfl [.bool a1_0, .string a1_1, .slice A1_2 n1_2 c1_2, .bool a1_3, .string a1_4, .bool a1_5, .string a1_6, .bool a1_7, .string a1_8, .bool a1_9, .string a1_10, .bool a1_11, .string a1_12, .bool a1_13, .string a1_14, .slice A1_15 n1_15 c1_15, .slice A1_16 n1_16 c1_16] _ (fun j v hv => by rw [Addr.add_mid]; exact py_rng (cs := [.bool a1_0, .string a1_1, .slice A1_2 n1_2 c1_2, .bool a1_3, .string a1_4, .bool a1_5, .string a1_6, .bool a1_7, .string a1_8, .bool a1_9, .string a1_10, .bool a1_11, .string a1_12, .bool a1_13, .string a1_14, .slice A1_15 n1_15 c1_15, .slice A1_16 n1_16 c1_16]) (pl_keep hw c1) j v hv) hu rfl py_info
      rotate_left
      ·simp only [Act.put, List.setIfInBounds_toArray, List.set_cons_zero, List.set_cons_succ, i64_w, i32_w]
       rfl
      refine one_ (i := 10) (N := some 46) #[true, true, true, true, true, true, true, true, true, true, true, true, true, false, false, false, false] rfl rfl (one_of HT_.out (by kernel_rfl)) (by decide) (fun K hK => ?_)
      refine goes_ Tryz.func7 (by kernel_rfl) rfl #[.agg #[.bool a0_0, .string a0_1, .slice X m c, .bool a0_3, .string a0_4, .bool a0_5, .string a0_6, .bool a0_7, .string a0_8, .bool a0_9, .string a0_10, .bool a0_11, .string a0_12, .bool a0_13, .string a0_14, .slice A0_15 n0_15 c0_15, .slice A0_16 n0_16 c0_16], .agg #[.bool a1_0, .string a1_1, .slice A1_2 n1_2 c1_2, .bool a1_3, .string a1_4, .bool a1_5, .string a1_6, .bool a1_7, .string a1_8, .bool a1_9, .string a1_10, .bool a1_11, .string a1_12, .bool a1_13, .string a1_14, .slice A1_15 n1_15 c1_15, .slice A1_16 n1_16 c1_16]] (by rfl) rfl rfl (by (try simp only [List.map_toArray, List.map_cons, List.map_nil]); first | done | rfl | (simp only [List.length_drop, List.length_take]; rfl)) ?_
      with_reducible refine (KY.out _ hHeld (pl_next b0 hHeld)).mono ?_
      rintro e w55 ⟨rfl, hb⟩
      refine ⟨_, rfl, ?_⟩
      have hN := pl_next hHeld hb
      clear hHeld hb
      refine hK.out _ _ hN (fun hHeld => ?_)
      clear hK K hN
      refine norm_ (a' := ?_) ?_ ?_
      rotate_left
      ·show Act.put _ (some 46) _ = _
       simp only [Act.put, List.setIfInBounds_toArray, List.set_cons_zero, List.set_cons_succ, i64_w, i32_w]
       rfl
      refine one_ (i := 13) (N := some 49) #[true, true, true, true, true, true, true, true, true, true, true, true, true, true, false, false, false] rfl rfl (one_of HT_.out (by kernel_rfl)) (by decide) (fun K hK => ?_)
      refine goes_ Tryz.func7 (by kernel_rfl) rfl #[.agg #[.bool a0_0, .string a0_1, .slice A0_2 n0_2 c0_2, .bool a0_3, .string a0_4, .bool a0_5, .string a0_6, .bool a0_7, .string a0_8, .bool a0_9, .string a0_10, .bool a0_11, .string a0_12, .bool a0_13, .string a0_14, .slice A0_15 n0_15 c0_15, .slice A0_16 n0_16 c0_16], .agg #[.bool a1_0, .string a1_1, .slice A1_2 n1_2 c1_2, .bool a1_3, .string a1_4, .bool a1_5, .string a1_6, .bool a1_7, .string a1_8, .bool a1_9, .string a1_10, .bool a1_11, .string a1_12, .bool a1_13, .string a1_14, .slice A1_15 n1_15 c1_15, .slice A1_16 n1_16 c1_16]] (by rfl) rfl rfl (by (try simp only [List.map_toArray, List.map_cons, List.map_nil]); first | done | rfl | (simp only [List.length_drop, List.length_take]; rfl)) ?_
      with_reducible refine (KZ.out _ (pl_next b0 hHeld)).mono ?_
      rintro e w56 ⟨rfl, hb⟩
      refine ⟨_, rfl, ?_⟩
      have hN := pl_next hHeld hb
      clear hHeld hb
      refine hK.out _ _ hN (fun hHeld => ?_)
      clear hK K hN
      refine norm_ (a' := ?_) ?_ ?_
      rotate_left
      ·show Act.put _ (some 49) _ = _
       simp only [Act.put, List.setIfInBounds_toArray, List.set_cons_zero, List.set_cons_succ, i64_w, i32_w]
       rfl
      refine pure_ (i := 14) (N := some 50) (v := ?_) (a' := ?_) #[true, true, true, true, true, true, true, true, true, true, true, true, true, true, true, false, false] rfl rfl (any_of HT_.out (by kernel_rfl)) (fun _ _ _ h => h) (Or.inl ⟨by rfl, ?_⟩) ?_ ?_
      rotate_left
      ·intro w'
       go_simp
       with_reducible rfl
      rotate_left
      ·simp only [Act.put, List.setIfInBounds_toArray, List.set_cons_zero, List.set_cons_succ, i64_w, i32_w]
       rfl
      refine pure_ (i := 15) (N := some 51) (v := ?_) (a' := ?_) #[true, true, true, true, true, true, true, true, true, true, true, true, true, true, true, true, false] rfl rfl (any_of HT_.out (by kernel_rfl)) (fun _ _ _ h => h) (Or.inl ⟨by rfl, ?_⟩) ?_ ?_
      rotate_left
      ·intro w'
       go_simp
       with_reducible rfl
      rotate_left
      ·simp only [Act.put, List.setIfInBounds_toArray, List.set_cons_zero, List.set_cons_succ, i64_w, i32_w]
       rfl
      refine pure_ (i := 16) (N := some 6) (v := ?_) (a' := ?_) #[true, true, true, true, true, true, true, true, true, true, true, true, true, true, true, true, true] rfl rfl (any_of HT_.out (by kernel_rfl)) (fun _ _ _ h => h) (Or.inl ⟨by rfl, ?_⟩) ?_ ?_
      rotate_left
      ·intro w'
       go_simp
       with_reducible rfl
      rotate_left
      ·simp only [Act.put, List.setIfInBounds_toArray, List.set_cons_zero, List.set_cons_succ, i64_w, i32_w]
       rfl
      refine done_ (done_of HT_.out (by kernel_rfl)) ?_
      try go_wp2
      go_ret
      exact ⟨by first | rfl | simp, pl_next b0 hHeld⟩

end Go.Proofs.YtipfmkfpaglkkaaGreatDoor.Z
