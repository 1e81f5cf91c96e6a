-- Written by a program of this session (myprint.py).
import Derived.Test.YtipfmkfpaglkkaaGreatDoorZ0
import Derived.Test.YtipfmkfpaglkkaaGreatDoorZ5
import Derived.Test.YtipfmkfpaglkkaaGreatDoorZ6
import Derived.Test.YtipfmkfpaglkkaaGreatDoorZ7
import Derived.Test.YtipfmkfpaglkkaaGreatDoorZ8
import Derived.Test.YtipfmkfpaglkkaaGreatDoorZ9
import Derived.Test.YtipfmkfpaglkkaaGreatDoorZ13
import Derived.Deep.MidRow
import Derived.Deep.CutBlock
import Derived.Deep.DeepCutAuto
import Derived.Deep.QuietTactic
import Derived.BigQuiet
import Derived.Test.YtipfmkfpaglkkaaGreatDoorSsC
import Derived.Test.YtipfmkfpaglkkaaGreatDoorShelf
import Derived.Test.YtipfmkfpaglkkaaGreatDoorBy
import Derived.Deep.RegionHeld3
import Derived.Test.YtipfmkfpaglkkaaGreatDoorBg
import Derived.Test.YtipfmkfpaglkkaaGreatDoorBn
import Derived.Test.YtipfmkfpaglkkaaGreatDoorGe
namespace Go.Proofs.YtipfmkfpaglkkaaGreatDoor.Z
open Go.Proofs.YtipfmkfpaglkkaaGreatDoor.Gw
open Go.RowKit Go.Proofs.YtipfmkfpaglkkaaGreatDoorW.PrintWords Go.Proofs.YtipfmkfpaglkkaaGreatDoorW.PrintLast Go.Proofs.YtipfmkfpaglkkaaGreatDoorW.PrintMore
attribute [local go_sem high] Go.Proofs.YtipfmkfpaglkkaaGreatDoor.Ge.gtr_str
attribute [local go_sem] max2_int min2_int max_two min_two max_three min_three max_four min_four   -- for this text's walks alone
set_option linter.unusedVariables false
set_option linter.unusedSimpArgs false

-- PLUGGED impl_PyPILocal: function 28 (a text of this session)
set_option maxRecDepth 100000 in
set_option maxHeartbeats 8000000 in
theorem py_zlocal (pl ql dl : ByteArray) (eo po qo dq ra : Option Addr) (rn rc : Nat) (la ga : Option Addr) (ln lc gn gc : Nat) (pl' ql' dl' : ByteArray) (eo' po' qo' dq' ra' : Option Addr) (rn' rc' : Nat) (la' ga' : Option Addr) (ln' lc' gn' gc' : Nat) (r : Int) (w : World) (h : ∀ W, Below w.heap.size w W → Calls Tryz.prog 50 #[.agg #[.pointer eo, .slice ra rn rc, .string pl, .pointer po, .string ql, .pointer qo, .string dl, .pointer dq, .slice la ln lc, .slice ga gn gc], .agg #[.pointer eo', .slice ra' rn' rc', .string pl', .pointer po', .string ql', .pointer qo', .string dl', .pointer dq', .slice la' ln' lc', .slice ga' gn' gc']] W fun e w' => e = .returned (.int .i64 r) ∧ Below W.heap.size W w') :
  Calls Tryz.prog 44 #[.agg #[.pointer eo, .slice ra rn rc, .string pl, .pointer po, .string ql, .pointer qo, .string dl, .pointer dq, .slice la ln lc, .slice ga gn gc], .agg #[.pointer eo', .slice ra' rn' rc', .string pl', .pointer po', .string ql', .pointer qo', .string dl', .pointer dq', .slice la' ln' lc', .slice ga' gn' gc']] w fun e w' => e = .returned (.int .i64 r) ∧ Below w.heap.size w w' := by
 obtain ⟨WA, hWA⟩ : ∃ WA : World, WA = (w.alloc (.cells #[.pointer eo, .slice ra rn rc, .string pl, .pointer po, .string ql, .pointer qo, .string dl, .pointer dq, .slice la ln lc, .slice ga gn gc] 50)).alloc (.cells #[.pointer eo', .slice ra' rn' rc', .string pl', .pointer po', .string ql', .pointer qo', .string dl', .pointer dq', .slice la' ln' lc', .slice ga' gn' gc'] 50) := ⟨_, rfl⟩
 have hs1 : (w.alloc (.cells #[.pointer eo, .slice ra rn rc, .string pl, .pointer po, .string ql, .pointer qo, .string dl, .pointer dq, .slice la ln lc, .slice ga gn gc] 50)).heap.size = w.heap.size + 1 := by simp
 have c1 : WA.heap[w.heap.size]? = some (.cells #[.pointer eo, .slice ra rn rc, .string pl, .pointer po, .string ql, .pointer qo, .string dl, .pointer dq, .slice la ln lc, .slice ga gn gc] 50 (0, 0)) := by rw [hWA]; exact blk_alloc (blk_new w _) _
 have c2 : WA.heap[w.heap.size + 1]? = some (.cells #[.pointer eo', .slice ra' rn' rc', .string pl', .pointer po', .string ql', .pointer qo', .string dl', .pointer dq', .slice la' ln' lc', .slice ga' gn' gc'] 50 (0, 0)) := by
  have := blk_new (w.alloc (.cells #[.pointer eo, .slice ra rn rc, .string pl, .pointer po, .string ql, .pointer qo, .string dl, .pointer dq, .slice la ln lc, .slice ga gn gc] 50)) (.cells #[.pointer eo', .slice ra' rn' rc', .string pl', .pointer po', .string ql', .pointer qo', .string dl', .pointer dq', .slice la' ln' lc', .slice ga' gn' gc'] 50)
  rw [hs1] at this
  rw [hWA]
  exact this
 have hB : Below w.heap.size w WA := by rw [hWA]; exact ((Below.refl _ w).alloc (Nat.le_refl _) _).alloc (by simp) _
 have HB := Aside0.mk hB
 have HWA := Aside0.mk hWA
 have HK := Aside0.mk (fun (W : World) (hB : Below WA.heap.size WA W) => And.intro (py_S10 (py_keep hB c1)) (py_S10 (py_keep hB c2)))
 have Q0 : Aside0 (∀ W, Below WA.heap.size WA W → ∀ j v, [.pointer eo, .slice ra rn rc, .string pl, .pointer po, .string ql, .pointer qo, .string dl, .pointer dq, .slice la ln lc, .slice ga gn gc][j]? = some v → W.cell? ((⟨w.heap.size, 0, none⟩ : Addr).add j) = some v) := ⟨fun W hB j v hv => by rw [Addr.add_mid]; exact py_rng (py_keep hB c1) j v hv⟩
 have Q1 : Aside0 (∀ W, Below WA.heap.size WA W → ∀ j v, [.pointer eo', .slice ra' rn' rc', .string pl', .pointer po', .string ql', .pointer qo', .string dl', .pointer dq', .slice la' ln' lc', .slice ga' gn' gc'][j]? = some v → W.cell? ((⟨w.heap.size + 1, 0, none⟩ : Addr).add j) = some v) := ⟨fun W hB j v hv => by rw [Addr.add_mid]; exact py_rng (py_keep hB c2) j v hv⟩
 have J := Aside0.mk (h WA hB)
 clear c1 c2 hWA hs1 hB HK h
 have hu := Tryz.underlying50
 have E0 : Aside0 (Below WA.heap.size WA WA) := ⟨Below.refl _ _⟩
 go_enter Tryz.func44, Tryz.ntmps44
 go_upto_region 1 with fail
 rw [← HWA.out]
 clear HWA
 go_wp2_with (first | ((with_reducible refine gate_dst (N := 5) rfl ?_); refine py_load rfl 50 (.tmp 2) rfl ⟨w.heap.size, 0, none⟩ rfl _ _ (Q0.out _ E0.out) hu rfl py_info10 ?_) | ((with_reducible refine gate_dst (N := 6) rfl ?_); refine py_load rfl 50 (.tmp 3) rfl ⟨w.heap.size + 1, 0, none⟩ rfl _ _ (Q1.out _ E0.out) hu rfl py_info10 ?_) | (go_at_call 50; (with_reducible refine (J.out).mono ?_)))
 rintro e W1 ⟨rfl, hb⟩
 have HBB : Aside0 (Below w.heap.size w W1) := ⟨py_next HB.out hb⟩
 clear hb J E0 Q0 Q1 HB hu
 go_wp2
 go_ret
 exact ⟨rfl, HBB.out⟩
def impl_PyPILocal.f (l0 l1 : List ByteArray) : Option Int := if ((l0.all fun s => decide (s.size ≤ 1000000)) && (l1.all fun s => decide (s.size ≤ 1000000))) = true then some (pyLocC l0 l1) else none
def pyEmp (l : List ByteArray) : PV := ⟨zval false ⟨#[]⟩, ([] : List S60).map zvS, ⟨#[]⟩, lzO false false ⟨#[]⟩, ⟨#[]⟩, lzO false false ⟨#[]⟩, ⟨#[]⟩, lzO false false ⟨#[]⟩, l, []⟩
theorem py_makeL (A : Option Addr) (n c : Nat) (l : List ByteArray) (w : World) : Calls Tryz.prog 19 #[.agg #[.bool false, .string ⟨#[]⟩, .slice none 0 0, .bool false, .string ⟨#[]⟩, .bool false, .string ⟨#[]⟩, .bool false, .string ⟨#[]⟩, .bool false, .string ⟨#[]⟩, .bool false, .string ⟨#[]⟩, .bool false, .string ⟨#[]⟩, .slice A n c, .slice none 0 0]] w (PyO (pyEmp l) ⟨#[]⟩ ⟨#[]⟩ ⟨#[]⟩ 0 (.slice A n c) (.slice none 0 0) w) :=
 py_make false ⟨#[]⟩ none 0 0 [] false ⟨#[]⟩ false ⟨#[]⟩ false ⟨#[]⟩ false ⟨#[]⟩ false ⟨#[]⟩ false ⟨#[]⟩ A n c l none 0 0 [] w (fun W hB => (impl_bigs.calls 1 none 0 [] [] W (Kd.C_nil _ _) (Nat.zero_le _) rfl).mono fun e w' h => py_bigs h) (fun x hx => by cases hx) (by decide) (by decide) (by decide) (by decide) (by decide)
set_option maxRecDepth 100000 in
set_option maxHeartbeats 8000000 in
theorem impl_PyPILocal.calls (A0 : Option Addr) (c0 : Nat) (l0 : List ByteArray) (A1 : Option Addr) (c1 : Nat) (l1 : List ByteArray) (r : Int) (w : World) (hr0 : Kd.C Kd.string w A0 l0.length l0) (hc0 : l0.length ≤ c0) (hr1 : Kd.C Kd.string w A1 l1.length l1) (hc1 : l1.length ≤ c1) (hG : GW w) (h : impl_PyPILocal.f l0 l1 = some r) :
  Calls Tryz.prog 28 #[.slice A0 l0.length c0, .slice A1 l1.length c1] w fun e w' => e = .returned (.int .i64 r) ∧ Below w.heap.size w w' := by
 unfold impl_PyPILocal.f at h
 cases hf : ((l0.all fun s => decide (s.size ≤ 1000000)) && (l1.all fun s => decide (s.size ≤ 1000000))) with
 | false => rw [if_neg (by rw [hf]; decide)] at h; cases h
 | true =>
  rw [if_pos hf] at h
  rw [Bool.and_eq_true, List.all_eq_true, List.all_eq_true] at hf
  have hr := (Option.some.inj h).symm
  have H1 := Aside0.mk (py_makeL A0 l0.length c0 l0)
  have H2 := Aside0.mk (py_makeL A1 l1.length c1 l1)
  have HC : Aside0 (∀ eo po qo dq ra rc eo' po' qo' dq' ra' rc' W, Below w.heap.size w W → Calls Tryz.prog 44 #[.agg #[.pointer eo, .slice ra 0 rc, .string ⟨#[]⟩, .pointer po, .string ⟨#[]⟩, .pointer qo, .string ⟨#[]⟩, .pointer dq, .slice A0 l0.length c0, .slice none 0 0], .agg #[.pointer eo', .slice ra' 0 rc', .string ⟨#[]⟩, .pointer po', .string ⟨#[]⟩, .pointer qo', .string ⟨#[]⟩, .pointer dq', .slice A1 l1.length c1, .slice none 0 0]] W fun e w' => e = .returned (.int .i64 r) ∧ Below W.heap.size W w') := ⟨fun eo po qo dq ra rc eo' po' qo' dq' ra' rc' W hB => py_zlocal _ _ _ eo po qo dq ra 0 rc A0 none l0.length c0 0 0 _ _ _ eo' po' qo' dq' ra' 0 rc' A1 none l1.length c1 0 0 r W fun W2 hB2 => py_local _ _ _ eo po qo dq ra 0 rc A0 none l0.length c0 0 0 _ _ _ eo' po' qo' dq' ra' 0 rc' A1 none l1.length c1 0 0 l0 l1 r W2 (Kd.C_below hr0 (py_next hB hB2)) (Kd.C_below hr1 (py_next hB hB2)) (fun x hx => of_decide_eq_true (hf.1 x hx)) (fun x hx => of_decide_eq_true (hf.2 x hx)) (GW.below hG (py_next hB hB2)) hr⟩
  obtain ⟨n0, hn0⟩ : ∃ n, n = l0.length := ⟨_, rfl⟩
  obtain ⟨n1, hn1⟩ : ∃ n, n = l1.length := ⟨_, rfl⟩
  rw [← hn0] at H1 HC ⊢
  rw [← hn1] at H2 HC ⊢
  clear hr0 hc0 hr1 hc1 h hf hr hn0 hn1 hG
  have K1 := Aside0.mk (H1.out w)
  go_enter Tryz.func28, Tryz.ntmps28
  go_wp2_with (go_at_call 19; (with_reducible refine (K1.out).mono ?_))
  rintro e W1 ⟨⟨eo, po, qo, dq, ra, rc, rfl, -, b1⟩⟩
  have B1 := Aside0.mk b1
  have K2 := Aside0.mk (H2.out W1)
  clear b1 K1 H1 H2
  go_wp2_with (go_at_call 19; (with_reducible refine (K2.out).mono ?_))
  rintro e W2 ⟨⟨eo', po', qo', dq', ra', rc', rfl, -, b2⟩⟩
  have B2 := Aside0.mk (py_next B1.out b2)
  have K3 := Aside0.mk (HC.out eo po qo dq ra rc eo' po' qo' dq' ra' rc' W2 B2.out)
  clear b2 K2 HC B1
  go_wp2_with (go_at_call 44; (with_reducible refine (K3.out).mono ?_))
  rintro e W3 ⟨rfl, b3⟩
  have B3 := Aside0.mk (py_next B2.out b3)
  clear b3 K3 B2
  go_wp2
  go_ret
  exact ⟨rfl, B3.out⟩

end Go.Proofs.YtipfmkfpaglkkaaGreatDoor.Z
