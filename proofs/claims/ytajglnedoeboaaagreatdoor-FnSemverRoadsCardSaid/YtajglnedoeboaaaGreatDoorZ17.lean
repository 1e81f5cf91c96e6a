-- Written by a program of this session (myprint.py).
import Derived.Test.YtajglnedoeboaaaGreatDoorZ0
import Derived.Test.YtajglnedoeboaaaGreatDoorZ5
import Derived.Test.YtajglnedoeboaaaGreatDoorZ7
import Derived.Test.YtajglnedoeboaaaGreatDoorZ8
import Derived.Test.YtajglnedoeboaaaGreatDoorZ11
import Derived.Test.YtajglnedoeboaaaGreatDoorZ16
import Derived.BigQuiet
import Derived.Deep.QuietTactic
import Derived.Deep.RegionHeld3
import Derived.Test.YtajglnedoeboaaaGreatDoorShelf
import Derived.Test.YtajglnedoeboaaaGreatDoorGe
namespace Go.Proofs.YtajglnedoeboaaaGreatDoor.Z
open Go.Proofs.YtajglnedoeboaaaGreatDoor.Gw
open Go.RowKit Go.Proofs.YtajglnedoeboaaaGreatDoorW.PrintWords Go.Proofs.YtajglnedoeboaaaGreatDoorW.PrintLast Go.Proofs.YtajglnedoeboaaaGreatDoorW.PrintMore
attribute [local go_sem high] Go.Proofs.YtajglnedoeboaaaGreatDoor.Ge.gtr_str
attribute [local go_sem] max2_int min2_int max_two min_two max_three min_three max_four min_four   -- for this text's walks alone
set_option linter.unusedVariables false
set_option linter.unusedSimpArgs false

-- PLUGGED impl_PubCompare: function 9 (a text of this session)
def PubB (k : Nat) (x y : ByteArray) : Option Int := (semantic_compareBuildComponents.f k x y).bind fun d => if d = 0 then (semantic_zzCut.f k x (⟨#[43]⟩ : ByteArray)).bind fun p => (semantic_zzCut.f k y (⟨#[43]⟩ : ByteArray)).bind fun q => some (Lib.compareBytes p.2.1.data.toList q.2.1.data.toList) else some d
theorem PubB.mono : ∀ x y k, LeO (PubB k x y) (PubB (k + 1) x y) := by
  intro x y k
  unfold PubB
  exact LeO.bind (semantic_compareBuildComponents.mono _ _ _) (fun _ => LeO.ite (LeO.bind (semantic_zzCut.mono _ _ _) (fun _ => LeO.bind (semantic_zzCut.mono _ _ _) (fun _ => LeO.refl _))) (LeO.refl _))
structure PbRet (v : Value) (w : World) (e : Ending) (w' : World) : Prop where
  h1 : e = .returned v
  h2 : Below w.heap.size w w'
/-- How two versions compare: their numbers, then what stands behind them. -/
def PubC (k : Nat) (l1 : List Int) (b1 : ByteArray) (l2 : List Int) (b2 : ByteArray) : Option Int := if cmpLists l1 l2 = 0 then PubB k b1 b2 else some (cmpLists l1 l2)
set_option maxRecDepth 100000 in
set_option maxHeartbeats 4000000 in
theorem zz_Pub (vv : Bool) (A : Option Addr) (c : Nat) (zs : List S85) (b s : ByteArray) (w : World) (hr : Kd.C k85 w A zs.length zs) (hc : zs.length ≤ c) (hs : ∀ x ∈ zs, x.f1.size ≤ 1000000) (hl : zs.length ≤ 1000000) :
    Calls Tryz.prog 25 #[.agg #[.bool vv, .slice A zs.length c, .string b, .string s]] w fun e w' => ∃ v, e = .returned (.agg #[.bool vv, v, .string b, .string s]) ∧ Kd.R Big.kd 94 w' w.heap.size (fun _ => True) v (zs.map zvS) ∧ Below w.heap.size w w' := by
  obtain ⟨WA, hWA⟩ : ∃ WA, WA = (w.alloc (.cells #[.bool vv, .slice A zs.length c, .string b, .string s] 53)).alloc (.cells #[.bool false, .slice none 0 0, .string ⟨#[]⟩, .string ⟨#[]⟩] 49) := ⟨_, rfl⟩
  have e1 : (w.alloc (.cells #[.bool vv, .slice A zs.length c, .string b, .string s] 53)).heap.size = w.heap.size + 1 := by simp
  have h0 : WA.heap[w.heap.size]? = some (.cells #[.bool vv, .slice A zs.length c, .string b, .string s] 53 (0, 0)) := by
    rw [hWA]
    exact (((Below.refl _ (w.alloc (.cells #[.bool vv, .slice A zs.length c, .string b, .string s] 53))).alloc (Nat.le_refl _) _).block w.heap.size (by simp)).trans (blk_new w _)
  have h1 : WA.heap[w.heap.size + 1]? = some (.cells #[.bool false, .slice none 0 0, .string ⟨#[]⟩, .string ⟨#[]⟩] 49 (0, 0)) := by
    rw [hWA, ← e1]
    exact blk_new _ _
  have hba : Below w.heap.size w WA := by rw [hWA]; exact ((Below.refl _ w).alloc (Nat.le_refl _) _).alloc (by simp) _
  have hlt : w.heap.size + 1 < WA.heap.size := (Array.getElem?_eq_some_iff.1 h1).1
  have HQ : Aside0 (Calls Tryz.prog 45 #[.agg #[.bool vv, .slice A zs.length c, .string b, .string s]] WA fun e w' => ∃ v, e = .returned (.agg #[.bool vv, v, .string b, .string s]) ∧ Kd.R Big.kd 94 w' WA.heap.size (fun _ => True) v (zs.map zvS) ∧ Below WA.heap.size WA w') := ⟨like_like vv A c zs b s WA (Kd.C_below hr hba) hc hs hl⟩
  obtain ⟨m, hm⟩ : ∃ m, m = zs.length := ⟨_, rfl⟩
  rw [← hm] at hWA HQ h0 ⊢
  obtain ⟨ps, hps⟩ : ∃ ps, ps = zs.map zvS := ⟨_, rfl⟩
  rw [← hps] at HQ ⊢
  have c0 := (blk_cell h0 0).trans rfl
  have c1 := (blk_cell h0 1).trans rfl
  have c2 := (blk_cell h0 2).trans rfl
  have c3 := (blk_cell h0 3).trans rfl
  have H1 := Aside0.mk h1
  have HBA := Aside0.mk hba
  have HLT := Aside0.mk hlt
  have HWA := Aside0.mk hWA
  clear hr hc hs hl hm e1 hps h0 h1 hba hlt hWA
  go_enter Tryz.func25, Tryz.ntmps25
  rw [HWA.out] at c0 c1 c2 c3
  go_wp2_with (go_at_call 45; rw [← HWA.out]; (with_reducible refine (HQ.out).mono ?_))
  rintro e W2 ⟨v, rfl, hv, hb2⟩
  obtain ⟨A2, c2', rfl, hc2, hr2⟩ := Kd.R_reads hv
  have g0 : W2.heap[w.heap.size + 1]? = some (.cells #[.bool false, .slice none 0 0, .string ⟨#[]⟩, .string ⟨#[]⟩] 49 (0, 0)) := (hb2.block _ HLT.out).trans H1.out
  have HBW : Below w.heap.size w W2 := HBA.out.trans (hb2.mono (Nat.le_of_lt (Nat.lt_of_le_of_lt (Nat.le_succ _) HLT.out)))
  obtain ⟨e1, e2, e3⟩ := sv_l4_end _ w.heap.size (.bool vv) (.slice A2 ps.length c2') (.string b) (.string s) g0 hv HLT.out (Nat.le_succ _) HBW
  have q0 := (blk_cell g0 0).trans rfl
  have q1 := (blk_cell g0 1).trans rfl
  have q2 := (blk_cell g0 2).trans rfl
  have q3 := (blk_cell g0 3).trans rfl
  have f0 := blk_frozen g0 0
  have f1 := blk_frozen g0 1
  have f2 := blk_frozen g0 2
  have f3 := blk_frozen g0 3
  have p0 := (blk_cell e1 0).trans rfl
  have p1 := (blk_cell e1 1).trans rfl
  have p2 := (blk_cell e1 2).trans rfl
  have p3 := (blk_cell e1 3).trans rfl
  have HE := Aside0.mk (And.intro e2 (Kd.R_lower e3 (Nat.le_succ w.heap.size)))
  unfold sv_l4W at p0 p1 p2 p3 HE
  clear hv hc2 hr2 hb2 g0 HBW e1 e2 e3 c0 c1 c2 c3 H1 HBA HLT
  go_wp2
  exact bodyPost_ret (v := .agg #[.bool vv, .slice A2 ps.length c2', .string b, .string s]) (by simp [results, Tryz.results25, go_sem, Tryz.underlying49, Tryz.underlying47, p0, p1, p2, p3]) rfl ⟨_, rfl, HE.out.2, HE.out.1⟩
set_option maxRecDepth 100000 in
set_option maxHeartbeats 4000000 in
theorem cmp_Pub (k : Nat) (v1 : Bool) (A1 : Option Addr) (c1 : Nat) (l1 : List Int) (b1 s1 : ByteArray) (v2 : Bool) (A2 : Option Addr) (c2 : Nat) (l2 : List Int) (b2 s2 : ByteArray) (r : Int) (w : World) (hr : Kd.C Big.kd w A1 l1.length l1) (hc : l1.length ≤ c1) (hr' : Kd.C Big.kd w A2 l2.length l2) (hc' : l2.length ≤ c2) (hG : GW w) (h : PubC k l1 b1 l2 b2 = some r) :
    Calls Tryz.prog 46 #[.agg #[.bool v1, .slice A1 l1.length c1, .string b1, .string s1], .agg #[.bool v2, .slice A2 l2.length c2, .string b2, .string s2]] w fun e w' => e = .returned (.int .i64 r) ∧ Below w.heap.size w w' := by
  have hu := Tryz.underlying49
  have hu2 := Tryz.underlying47
  obtain ⟨W0, hW0⟩ : ∃ W0, w.alloc (.cells #[.bool v1, .slice A1 l1.length c1, .string b1, .string s1] 49) = W0 := ⟨_, rfl⟩
  obtain ⟨WA, hWA⟩ : ∃ WA, W0.alloc (.cells #[.bool v2, .slice A2 l2.length c2, .string b2, .string s2] 49) = WA := ⟨_, rfl⟩
  have hB0 : Below w.heap.size w W0 := by rw [← hW0]; exact (Below.refl _ _).alloc (Nat.le_refl _) _
  have hz0 : W0.heap.size = w.heap.size + 1 := by rw [← hW0]; simp
  have hB1 : Below W0.heap.size W0 WA := by rw [← hWA]; exact (Below.refl _ _).alloc (Nat.le_refl _) _
  have hBA : Below w.heap.size w WA := hB0.trans (hB1.mono (by omega))
  have g1 : WA.heap[w.heap.size]? = some (.cells #[.bool v1, .slice A1 l1.length c1, .string b1, .string s1] 49 (0, 0)) := by
    rw [← hW0] at hB1 hz0
    exact (hB1.block w.heap.size (by omega)).trans (blk_new w _)
  have g2 : WA.heap[w.heap.size + 1]? = some (.cells #[.bool v2, .slice A2 l2.length c2, .string b2, .string s2] 49 (0, 0)) := by
    rw [← hz0, ← hWA]
    exact blk_new W0 _
  have k11 : WA.cell? ⟨w.heap.size, 1, none⟩ = some (.slice A1 l1.length c1) := (blk_cell g1 1).trans rfl
  have k21 : WA.cell? ⟨w.heap.size + 1, 1, none⟩ = some (.slice A2 l2.length c2) := (blk_cell g2 1).trans rfl
  have hl1 : w.heap.size < WA.heap.size := (Array.getElem?_eq_some_iff.1 g1).1
  have hl2 : w.heap.size + 1 < WA.heap.size := (Array.getElem?_eq_some_iff.1 g2).1
  have hC := Aside0.mk (big_CompsCmp w.heap.size 1 A1 c1 l1 A2 c2 l2 WA k11 (Kd.C_below hr hBA) hc (Kd.C_below hr' hBA) hc')
  have HB := Aside0.mk hBA
  have hk : Aside0 (∀ W, Below WA.heap.size WA W → W.cell? ⟨w.heap.size, 2, none⟩ = some (.string b1) ∧ W.cell? ⟨w.heap.size + 1, 2, none⟩ = some (.string b2)) := ⟨fun W h => ⟨(blk_cell ((h.block _ hl1).trans g1) 2).trans rfl, (blk_cell ((h.block _ hl2).trans g2) 2).trans rfl⟩⟩
  obtain ⟨x, hx⟩ : ∃ x, x = cmpLists l1 l2 := ⟨_, rfl⟩
  have HR : Aside0 (PubC k l1 b1 l2 b2 = if x = 0 then PubB k b1 b2 else some x) := ⟨by rw [hx]; rfl⟩
  rw [← hx] at hC
  have HG := Aside0.mk hG
  have HH := Aside0.mk h
  obtain ⟨n, hn⟩ : ∃ n, n = l1.length := ⟨_, rfl⟩
  obtain ⟨m, hm⟩ : ∃ m, m = l2.length := ⟨_, rfl⟩
  rw [← hm] at hC
  rw [← hn] at hW0 k11 ⊢
  rw [← hm] at hWA k21 ⊢
  clear hr hr' hc hc' hB0 hB1 hBA hx hn hm g1 g2 hl1 hl2 hG h
  rcases Decidable.em (x = 0) with rfl | h0
  · have HV : Aside0 (PubB k b1 b2 = some r) := ⟨by rw [← HH.out, HR.out, if_pos rfl]⟩
    clear HH HR
    go_enter Tryz.func46, Tryz.ntmps46
    go_wp2_with (go_at_call 51; (with_reducible refine (hC.out).mono ?_))
    rintro e W3 ⟨rfl, hb⟩
    obtain ⟨q1, q2⟩ := hk.out W3 hb
    have HB3 : Aside0 (Below w.heap.size w W3) := ⟨HB.out.trans (hb.mono HB.out.size)⟩
    have hb0 := hb
    clear hb
    have HBA3 : Aside0 (Below WA.heap.size WA W3) := ⟨hb0⟩
    clear hb0
    have hv := HV.out
    unfold PubB at hv
    obtain ⟨d, hd, hv2⟩ := Option.bind_eq_some_iff.1 hv
    have HCB := Aside0.mk (semantic_compareBuildComponents.calls k b1 b2 d W3 (GW.below HG.out HB3.out) hd)
    clear HV hv hd
    rcases Decidable.em (d = 0) with rfl | d0
    · rw [if_pos rfl] at hv2
      obtain ⟨⟨x1, x2, x3⟩, hx', hv3⟩ := Option.bind_eq_some_iff.1 hv2
      clear hv2
      obtain ⟨⟨y1, y2, y3⟩, hy', hv4⟩ := Option.bind_eq_some_iff.1 hv3
      clear hv3
      have hr4 : r = Lib.compareBytes x2.data.toList y2.data.toList := (Option.some.inj hv4).symm
      have HX : Aside0 (∀ W, Calls Tryz.prog 60 #[.string b1, .string (⟨#[43]⟩ : ByteArray)] W (PbRet (.tuple #[.string x1, .string x2, .bool x3]) W)) := ⟨fun W => (semantic_zzCut.calls k b1 _ x1 x2 x3 W hx').mono fun e w' h => ⟨h.1, h.2.below⟩⟩
      have HY : Aside0 (∀ W, Calls Tryz.prog 60 #[.string b2, .string (⟨#[43]⟩ : ByteArray)] W (PbRet (.tuple #[.string y1, .string y2, .bool y3]) W)) := ⟨fun W => (semantic_zzCut.calls k b2 _ y1 y2 y3 W hy').mono fun e w' h => ⟨h.1, h.2.below⟩⟩
      have HS : Aside0 (∀ W, Calls Tryz.prog 61 #[.string x2, .string y2] W (PbRet (.int .i64 r) W)) := ⟨fun W => (Tryz.strings_Compare x2 y2 W).mono fun e w' h => ⟨by rw [h.1, hr4], by rw [h.2]; exact Below.refl _ _⟩⟩
      clear hx' hy' hv4 hr4
      go_wp2_with (go_at_call 52; (with_reducible refine (HCB.out).mono ?_))
      rintro e W4 ⟨rfl, hb4⟩
      have HBA4 : Aside0 (Below WA.heap.size WA W4) := ⟨HBA3.out.trans (hb4.mono HBA3.out.size)⟩
      obtain ⟨q14, q24⟩ := hk.out W4 HBA4.out
      clear hb4 q1 q2
      go_wp2_with (go_at_call 60; (with_reducible refine (HX.out _).mono ?_))
      rintro e W5 ⟨rfl, hb5⟩
      have HBA5 : Aside0 (Below WA.heap.size WA W5) := ⟨HBA4.out.trans (hb5.mono HBA4.out.size)⟩
      obtain ⟨q15, q25⟩ := hk.out W5 HBA5.out
      clear hb5 q14 q24
      go_wp2_with (go_at_call 60; (with_reducible refine (HY.out _).mono ?_))
      rintro e W6 ⟨rfl, hb6⟩
      have HBA6 : Aside0 (Below WA.heap.size WA W6) := ⟨HBA5.out.trans (hb6.mono HBA5.out.size)⟩
      clear hb6 q15 q25
      go_wp2_with (go_at_call 61; (with_reducible refine (HS.out _).mono ?_))
      rintro e W7 ⟨rfl, hb7⟩
      have HB7 : Aside0 (Below w.heap.size w W7) := ⟨HB.out.trans ((HBA6.out.trans (hb7.mono HBA6.out.size)).mono HB.out.size)⟩
      clear hb7
      go_wp2
      go_ret
      exact ⟨rfl, HB7.out⟩
    · rw [if_neg d0] at hv2
      obtain rfl := Option.some.inj hv2
      clear hv2
      have e0 : (d != 0) = true := by simp [d0]
      have e1 : (d == 0) = false := by simp [d0]
      go_wp2_with (go_at_call 52; (with_reducible refine (HCB.out).mono ?_))
      rintro e W4 ⟨rfl, hb4⟩
      have HB4 : Aside0 (Below w.heap.size w W4) := ⟨HB3.out.trans (hb4.mono HB3.out.size)⟩
      clear hb4
      go_wp2
      go_ret
      exact ⟨rfl, HB4.out⟩
  · have HV : Aside0 (r = x) := ⟨by have h2 := HH.out; rw [HR.out, if_neg h0] at h2; exact (Option.some.inj h2).symm⟩
    rw [HV.out]
    clear HV HH HR
    have e0 : (x != 0) = true := by simp [h0]
    have e1 : (x == 0) = false := by simp [h0]
    go_enter Tryz.func46, Tryz.ntmps46
    go_wp2_with (go_at_call 51; (with_reducible refine (hC.out).mono ?_))
    rintro e W3 ⟨rfl, hb⟩
    have HB3 : Aside0 (Below w.heap.size w W3) := ⟨HB.out.trans (hb.mono HB.out.size)⟩
    clear hb hk
    go_wp2
    go_ret
    exact ⟨rfl, HB3.out⟩
set_option maxHeartbeats 4000000 in
theorem Cmp_Pub (k : Nat) (v1 : Bool) (A1 : Option Addr) (c1 : Nat) (l1 : List Int) (b1 s1 : ByteArray) (v2 : Bool) (A2 : Option Addr) (c2 : Nat) (l2 : List Int) (b2 s2 : ByteArray) (r : Int) (w : World) (hr : Kd.C Big.kd w A1 l1.length l1) (hc : l1.length ≤ c1) (hr' : Kd.C Big.kd w A2 l2.length l2) (hc' : l2.length ≤ c2) (hG : GW w) (h : PubC k l1 b1 l2 b2 = some r) :
    Calls Tryz.prog 27 #[.agg #[.bool v1, .slice A1 l1.length c1, .string b1, .string s1], .iface 49 (.agg #[.bool v2, .slice A2 l2.length c2, .string b2, .string s2])] w fun e w' => e = .returned (.tuple #[.int .i64 r, .nilIface]) ∧ Below w.heap.size w w' := by
  have hu := Tryz.underlying49
  have hu2 := Tryz.underlying47
  have HF : Aside0 (∀ W, Below w.heap.size w W → Calls Tryz.prog 46 #[.agg #[.bool v1, .slice A1 l1.length c1, .string b1, .string s1], .agg #[.bool v2, .slice A2 l2.length c2, .string b2, .string s2]] W fun e w' => e = .returned (.int .i64 r) ∧ Below W.heap.size W w') := ⟨fun W hB => cmp_Pub k v1 A1 c1 l1 b1 s1 v2 A2 c2 l2 b2 s2 r W (Kd.C_below hr hB) hc (Kd.C_below hr' hB) hc' (GW.below hG hB) h⟩
  obtain ⟨n, hn⟩ : ∃ n, n = l1.length := ⟨_, rfl⟩
  obtain ⟨m, hm⟩ : ∃ m, m = l2.length := ⟨_, rfl⟩
  rw [← hn, ← hm] at HF ⊢
  have hta : ∀ W : World, (Instr.typeAssert (.iface 49 (.agg #[.bool v2, .slice A2 m c2, .string b2, .string s2])) 74 49 true).run Tryz.prog W = .ok (.tuple #[.agg #[.bool v2, .slice A2 m c2, .string b2, .string s2], .bool true]) W := fun W => by kernel_rfl
  clear hr hr' hG h hc hc' hn hm
  go_enter Tryz.func27, Tryz.ntmps27
  go_wp2_with (go_at_call 46; refine (HF.out _ ?hbel).mono ?_)
  case hbel => exact ((Below.refl _ _).alloc (Nat.le_refl _) _).alloc (by simp) _
  rintro e W1 ⟨rfl, hb⟩
  have HB : Aside0 (Below w.heap.size w W1) := ⟨by
    refine Below.trans ?_ (hb.mono ?_)
    · exact ((Below.refl _ _).alloc (Nat.le_refl _) _).alloc (by simp) _
    · simp; omega⟩
  clear hb
  go_wp2
  go_ret2
  exact ⟨rfl, HB.out⟩
theorem PubC.mono (l1 : List Int) (b1 : ByteArray) (l2 : List Int) (b2 : ByteArray) (k : Nat) : LeO (PubC k l1 b1 l2 b2) (PubC (k + 1) l1 b1 l2 b2) := by
  unfold PubC
  exact LeO.ite (PubB.mono _ _ _) (LeO.refl _)
def impl_PubCompare.f (k : Nat) (a0_0 : Bool) (l0_1 : List S66) (a0_2 a0_3 : ByteArray) (a1_0 : Bool) (l1_1 : List S66) (a1_2 a1_3 : ByteArray) : Option (Int × Bool) := (impl_like.f k a0_0 l0_1 a0_2 a0_3).bind fun p => (impl_like.f k a1_0 l1_1 a1_2 a1_3).bind fun q => if (fitZ p.2.1 && fitZ q.2.1) = true then (PubC k (p.2.1.map zvS) p.2.2.1 (q.2.1.map zvS) q.2.2.1).bind fun t => some (t, true) else none
theorem impl_PubCompare.mono : ∀ a0 a1 a2 a3 a4 a5 a6 a7 k, LeO (impl_PubCompare.f k a0 a1 a2 a3 a4 a5 a6 a7) (impl_PubCompare.f (k + 1) a0 a1 a2 a3 a4 a5 a6 a7) := by
  intro a0 a1 a2 a3 a4 a5 a6 a7 k
  unfold impl_PubCompare.f
  exact LeO.bind (impl_like.mono _ _ _ _ _) (fun _ => LeO.bind (impl_like.mono _ _ _ _ _) (fun _ => LeO.ite (LeO.bind (PubC.mono _ _ _ _ _) (fun _ => LeO.refl _)) (LeO.refl _)))
set_option maxRecDepth 100000 in
set_option maxHeartbeats 4000000 in
theorem impl_PubCompare.calls (k : Nat) (a0_0 : Bool) (A0_1 : Option Addr) (c0_1 : Nat) (l0_1 : List S66) (a0_2 a0_3 : ByteArray) (a1_0 : Bool) (A1_1 : Option Addr) (c1_1 : Nat) (l1_1 : List S66) (a1_2 a1_3 : ByteArray) (r1 : Int) (r2 : Bool) (w : World) (hr0_1 : Kd.C k66 w A0_1 l0_1.length l0_1) (hc0_1 : l0_1.length ≤ c0_1) (hr1_1 : Kd.C k66 w A1_1 l1_1.length l1_1) (hc1_1 : l1_1.length ≤ c1_1) (hG : GW w) (h : impl_PubCompare.f k a0_0 l0_1 a0_2 a0_3 a1_0 l1_1 a1_2 a1_3 = some (r1, r2)) :
    Calls Tryz.prog 9 #[.agg #[.bool a0_0, .slice A0_1 l0_1.length c0_1, .string a0_2, .string a0_3], .agg #[.bool a1_0, .slice A1_1 l1_1.length c1_1, .string a1_2, .string a1_3]] w fun e w' => e = .returned (.tuple #[.int .i64 r1, .bool r2]) ∧ Below w.heap.size w w' := by
  unfold impl_PubCompare.f at h
  obtain ⟨⟨p0, p1, p2, p3⟩, hp, hh⟩ := Option.bind_eq_some_iff.1 h
  clear h
  obtain ⟨⟨q0, q1, q2, q3⟩, hq, h⟩ := Option.bind_eq_some_iff.1 hh
  clear hh
  cases hf : (fitZ p1 && fitZ q1) with
  | false => rw [if_neg (by simp only [hf]; exact Bool.false_ne_true)] at h; cases h
  | true =>
    rw [if_pos hf] at h
    obtain ⟨t, ht, hh⟩ := Option.bind_eq_some_iff.1 h
    clear h
    simp only [Option.some.injEq, Prod.mk.injEq] at hh
    obtain ⟨rfl, rfl⟩ := hh
    rw [Bool.and_eq_true] at hf
    obtain ⟨lp, sp⟩ := fitZ_of hf.1
    obtain ⟨lq, sq⟩ := fitZ_of hf.2
    have ht : PubC k (p1.map zvS) p2 (q1.map zvS) q2 = some t := ht
    obtain ⟨WA, hWA⟩ : ∃ WA, WA = (w.alloc (.cells #[.bool a0_0, .slice A0_1 l0_1.length c0_1, .string a0_2, .string a0_3] 24)).alloc (.cells #[.bool a1_0, .slice A1_1 l1_1.length c1_1, .string a1_2, .string a1_3] 24) := ⟨_, rfl⟩
    have e1 : (w.alloc (.cells #[.bool a0_0, .slice A0_1 l0_1.length c0_1, .string a0_2, .string a0_3] 24)).heap.size = w.heap.size + 1 := by simp
    have g1 : WA.heap[w.heap.size]? = some (.cells #[.bool a0_0, .slice A0_1 l0_1.length c0_1, .string a0_2, .string a0_3] 24 (0, 0)) := by
      rw [hWA]
      exact (((Below.refl _ (w.alloc (.cells #[.bool a0_0, .slice A0_1 l0_1.length c0_1, .string a0_2, .string a0_3] 24))).alloc (Nat.le_refl _) _).block w.heap.size (by simp)).trans (blk_new w _)
    have g2 : WA.heap[w.heap.size + 1]? = some (.cells #[.bool a1_0, .slice A1_1 l1_1.length c1_1, .string a1_2, .string a1_3] 24 (0, 0)) := by
      rw [hWA, ← e1]
      exact blk_new _ _
    have c8 : Below w.heap.size w WA := by rw [hWA]; exact ((Below.refl _ w).alloc (Nat.le_refl _) _).alloc (by simp) _
    have HQ1 : Aside0 (∀ W, Below w.heap.size w W → Calls Tryz.prog 26 #[.agg #[.bool a0_0, .slice A0_1 l0_1.length c0_1, .string a0_2, .string a0_3]] W (LkI p0 p2 p3 p1 W)) := ⟨fun W hB => (impl_like.calls k a0_0 A0_1 c0_1 l0_1 a0_2 a0_3 p0 p1 p2 p3 W (Kd.C_below hr0_1 hB) hc0_1 hp).mono fun e w' h => ⟨h⟩⟩
    have HQ2 : Aside0 (∀ W, Below w.heap.size w W → Calls Tryz.prog 26 #[.agg #[.bool a1_0, .slice A1_1 l1_1.length c1_1, .string a1_2, .string a1_3]] W (LkI q0 q2 q3 q1 W)) := ⟨fun W hB => (impl_like.calls k a1_0 A1_1 c1_1 l1_1 a1_2 a1_3 q0 q1 q2 q3 W (Kd.C_below hr1_1 hB) hc1_1 hq).mono fun e w' h => ⟨h⟩⟩
    have HP1 : Aside0 (∀ X n W, Kd.C k85 W X p1.length p1 → p1.length ≤ n → Calls Tryz.prog 25 #[.agg #[.bool p0, .slice X p1.length n, .string p2, .string p3]] W (ZzI p0 p2 p3 (p1.map zvS) W)) := ⟨fun X n W hX hn => (zz_Pub p0 X n p1 p2 p3 W hX hn sp lp).mono fun e w' h => ⟨h⟩⟩
    have HP2 : Aside0 (∀ X n W, Kd.C k85 W X q1.length q1 → q1.length ≤ n → Calls Tryz.prog 25 #[.agg #[.bool q0, .slice X q1.length n, .string q2, .string q3]] W (ZzI q0 q2 q3 (q1.map zvS) W)) := ⟨fun X n W hX hn => (zz_Pub q0 X n q1 q2 q3 W hX hn sq lq).mono fun e w' h => ⟨h⟩⟩
    obtain ⟨zs, hzs⟩ : ∃ zs, zs = p1.map zvS := ⟨_, rfl⟩
    obtain ⟨ys, hys⟩ : ∃ ys, ys = q1.map zvS := ⟨_, rfl⟩
    rw [← hzs] at HP1 ht
    rw [← hys] at HP2 ht
    have HC : Aside0 (∀ Y1 n1 Y2 n2 W, Kd.C Big.kd W Y1 zs.length zs → zs.length ≤ n1 → Kd.C Big.kd W Y2 ys.length ys → ys.length ≤ n2 → Below w.heap.size w W → Calls Tryz.prog 27 #[.agg #[.bool p0, .slice Y1 zs.length n1, .string p2, .string p3], .iface 49 (.agg #[.bool q0, .slice Y2 ys.length n2, .string q2, .string q3])] W fun e w' => e = .returned (.tuple #[.int .i64 t, .nilIface]) ∧ Below W.heap.size W w') := ⟨fun Y1 n1 Y2 n2 W h1 h2 h3 h4 hB => Cmp_Pub k p0 Y1 n1 zs p2 p3 q0 Y2 n2 ys q2 q3 t W h1 h2 h3 h4 (GW.below hG hB) ht⟩
    obtain ⟨m0, hm0⟩ : ∃ m, m = l0_1.length := ⟨_, rfl⟩
    obtain ⟨m1, hm1⟩ : ∃ m, m = l1_1.length := ⟨_, rfl⟩
    rw [← hm0] at HQ1
    rw [← hm1] at HQ2
    rw [← hm0, ← hm1] at hWA ⊢
    rw [← hm0] at g1
    rw [← hm1] at g2
    have c0 : WA.cell? ⟨w.heap.size, 0, none⟩ = some (.bool a0_0) := (blk_cell g1 0).trans rfl
    have c1 : WA.cell? ⟨w.heap.size, 1, none⟩ = some (.slice A0_1 m0 c0_1) := (blk_cell g1 1).trans rfl
    have c2 : WA.cell? ⟨w.heap.size, 2, none⟩ = some (.string a0_2) := (blk_cell g1 2).trans rfl
    have c3 : WA.cell? ⟨w.heap.size, 3, none⟩ = some (.string a0_3) := (blk_cell g1 3).trans rfl
    have c4 : WA.cell? ⟨w.heap.size + 1, 0, none⟩ = some (.bool a1_0) := (blk_cell g2 0).trans rfl
    have c5 : WA.cell? ⟨w.heap.size + 1, 1, none⟩ = some (.slice A1_1 m1 c1_1) := (blk_cell g2 1).trans rfl
    have c6 : WA.cell? ⟨w.heap.size + 1, 2, none⟩ = some (.string a1_2) := (blk_cell g2 2).trans rfl
    have c7 : WA.cell? ⟨w.heap.size + 1, 3, none⟩ = some (.string a1_3) := (blk_cell g2 3).trans rfl
    clear hp hq hf lp sp lq sq hr0_1 hr1_1 hc0_1 hc1_1 hG g1 g2 ht hzs hys hm0 hm1 e1
    go_enter Tryz.func9, Tryz.ntmps9
    go_wp2
    rw [← hWA]
    clear hWA
    go_region_held3 (fun w' => w'.cell? ⟨w.heap.size, 0, none⟩ = some (.bool a0_0) ∧ w'.cell? ⟨w.heap.size, 1, none⟩ = some (.slice A0_1 m0 c0_1) ∧ w'.cell? ⟨w.heap.size, 2, none⟩ = some (.string a0_2) ∧ w'.cell? ⟨w.heap.size, 3, none⟩ = some (.string a0_3) ∧ w'.cell? ⟨w.heap.size + 1, 0, none⟩ = some (.bool a1_0) ∧ w'.cell? ⟨w.heap.size + 1, 1, none⟩ = some (.slice A1_1 m1 c1_1) ∧ w'.cell? ⟨w.heap.size + 1, 2, none⟩ = some (.string a1_2) ∧ w'.cell? ⟨w.heap.size + 1, 3, none⟩ = some (.string a1_3)) (first | exact ⟨by with_reducible assumption, by with_reducible assumption, by with_reducible assumption, by with_reducible assumption, by with_reducible assumption, by with_reducible assumption, by with_reducible assumption, by with_reducible assumption⟩ | exact ⟨c0, c1, c2, c3, c4, c5, c6, c7⟩ | go_keep)
      (first | (go_at_call 26; (with_reducible refine (HQ1.out _ ?_).mono ?_); (first | (with_reducible assumption) | exact c8 | exact below_drew c8); rintro e w1 ⟨⟨v, rfl, hv, hb⟩⟩; obtain ⟨X1, n1, rfl, hc1, hr1⟩ := Kd.R_reads hv; have HZ1 := Aside0.mk (fun W (hB : Below w1.heap.size w1 W) => HP1.out X1 n1 W (Kd.C_below hr1 hB) hc1); have B9 := (show Below w.heap.size w _ by first | (with_reducible assumption) | exact c8 | exact below_drew c8).trans (hb.mono (show Below w.heap.size w _ by first | (with_reducible assumption) | exact c8 | exact below_drew c8).size); have k0 := sv_hcell hb (a := ⟨w.heap.size, 0, none⟩) (v := .bool a0_0) (by first | (with_reducible assumption) | exact c0); have k1 := sv_hcell hb (a := ⟨w.heap.size, 1, none⟩) (v := .slice A0_1 m0 c0_1) (by first | (with_reducible assumption) | exact c1); have k2 := sv_hcell hb (a := ⟨w.heap.size, 2, none⟩) (v := .string a0_2) (by first | (with_reducible assumption) | exact c2); have k3 := sv_hcell hb (a := ⟨w.heap.size, 3, none⟩) (v := .string a0_3) (by first | (with_reducible assumption) | exact c3); have k4 := sv_hcell hb (a := ⟨w.heap.size + 1, 0, none⟩) (v := .bool a1_0) (by first | (with_reducible assumption) | exact c4); have k5 := sv_hcell hb (a := ⟨w.heap.size + 1, 1, none⟩) (v := .slice A1_1 m1 c1_1) (by first | (with_reducible assumption) | exact c5); have k6 := sv_hcell hb (a := ⟨w.heap.size + 1, 2, none⟩) (v := .string a1_2) (by first | (with_reducible assumption) | exact c6); have k7 := sv_hcell hb (a := ⟨w.heap.size + 1, 3, none⟩) (v := .string a1_3) (by first | (with_reducible assumption) | exact c7)) | (go_at_call 25; (with_reducible refine (HZ1.out _ ?_).mono ?_); (first | exact Below.refl _ _ | exact below_drew (Below.refl _ _)); rintro e w2 ⟨⟨v, rfl, hv, hb⟩⟩; obtain ⟨Y1, y1, rfl, hd1, hy1⟩ := Kd.R_reads hv; have HY1 := Aside0.mk hy1; have HD1 := Aside0.mk hd1; have B9 := (show Below w.heap.size w _ by first | (with_reducible assumption) | exact c8 | exact below_drew c8).trans (hb.mono (show Below w.heap.size w _ by first | (with_reducible assumption) | exact c8 | exact below_drew c8).size); have k0 := sv_hcell hb (a := ⟨w.heap.size, 0, none⟩) (v := .bool a0_0) (by first | (with_reducible assumption) | exact c0); have k1 := sv_hcell hb (a := ⟨w.heap.size, 1, none⟩) (v := .slice A0_1 m0 c0_1) (by first | (with_reducible assumption) | exact c1); have k2 := sv_hcell hb (a := ⟨w.heap.size, 2, none⟩) (v := .string a0_2) (by first | (with_reducible assumption) | exact c2); have k3 := sv_hcell hb (a := ⟨w.heap.size, 3, none⟩) (v := .string a0_3) (by first | (with_reducible assumption) | exact c3); have k4 := sv_hcell hb (a := ⟨w.heap.size + 1, 0, none⟩) (v := .bool a1_0) (by first | (with_reducible assumption) | exact c4); have k5 := sv_hcell hb (a := ⟨w.heap.size + 1, 1, none⟩) (v := .slice A1_1 m1 c1_1) (by first | (with_reducible assumption) | exact c5); have k6 := sv_hcell hb (a := ⟨w.heap.size + 1, 2, none⟩) (v := .string a1_2) (by first | (with_reducible assumption) | exact c6); have k7 := sv_hcell hb (a := ⟨w.heap.size + 1, 3, none⟩) (v := .string a1_3) (by first | (with_reducible assumption) | exact c7)) | (go_at_call 26; (with_reducible refine (HQ2.out _ ?_).mono ?_); (first | (with_reducible assumption) | exact c8 | exact below_drew c8); rintro e w3 ⟨⟨v, rfl, hv, hb⟩⟩; obtain ⟨X2, n2, rfl, hc2, hr2⟩ := Kd.R_reads hv; have HZ2 := Aside0.mk (fun W (hB : Below w3.heap.size w3 W) => HP2.out X2 n2 W (Kd.C_below hr2 hB) hc2); have HY1 := Aside0.mk (by first | exact Kd.C_below HY1.out hb | exact Kd.C_below (Kd.C_drew HY1.out) hb); have B9 := (show Below w.heap.size w _ by first | (with_reducible assumption) | exact c8 | exact below_drew c8).trans (hb.mono (show Below w.heap.size w _ by first | (with_reducible assumption) | exact c8 | exact below_drew c8).size); have k0 := sv_hcell hb (a := ⟨w.heap.size, 0, none⟩) (v := .bool a0_0) (by first | (with_reducible assumption) | exact c0); have k1 := sv_hcell hb (a := ⟨w.heap.size, 1, none⟩) (v := .slice A0_1 m0 c0_1) (by first | (with_reducible assumption) | exact c1); have k2 := sv_hcell hb (a := ⟨w.heap.size, 2, none⟩) (v := .string a0_2) (by first | (with_reducible assumption) | exact c2); have k3 := sv_hcell hb (a := ⟨w.heap.size, 3, none⟩) (v := .string a0_3) (by first | (with_reducible assumption) | exact c3); have k4 := sv_hcell hb (a := ⟨w.heap.size + 1, 0, none⟩) (v := .bool a1_0) (by first | (with_reducible assumption) | exact c4); have k5 := sv_hcell hb (a := ⟨w.heap.size + 1, 1, none⟩) (v := .slice A1_1 m1 c1_1) (by first | (with_reducible assumption) | exact c5); have k6 := sv_hcell hb (a := ⟨w.heap.size + 1, 2, none⟩) (v := .string a1_2) (by first | (with_reducible assumption) | exact c6); have k7 := sv_hcell hb (a := ⟨w.heap.size + 1, 3, none⟩) (v := .string a1_3) (by first | (with_reducible assumption) | exact c7)) | (go_at_call 25; (with_reducible refine (HZ2.out _ ?_).mono ?_); (first | exact Below.refl _ _ | exact below_drew (Below.refl _ _)); rintro e w4 ⟨⟨v, rfl, hv, hb⟩⟩; obtain ⟨Y2, y2, rfl, hd2, hy2⟩ := Kd.R_reads hv; have HY1 := Aside0.mk (by first | exact Kd.C_below HY1.out hb | exact Kd.C_below (Kd.C_drew HY1.out) hb); have B9 := (show Below w.heap.size w _ by first | (with_reducible assumption) | exact c8 | exact below_drew c8).trans (hb.mono (show Below w.heap.size w _ by first | (with_reducible assumption) | exact c8 | exact below_drew c8).size); have k0 := sv_hcell hb (a := ⟨w.heap.size, 0, none⟩) (v := .bool a0_0) (by first | (with_reducible assumption) | exact c0); have k1 := sv_hcell hb (a := ⟨w.heap.size, 1, none⟩) (v := .slice A0_1 m0 c0_1) (by first | (with_reducible assumption) | exact c1); have k2 := sv_hcell hb (a := ⟨w.heap.size, 2, none⟩) (v := .string a0_2) (by first | (with_reducible assumption) | exact c2); have k3 := sv_hcell hb (a := ⟨w.heap.size, 3, none⟩) (v := .string a0_3) (by first | (with_reducible assumption) | exact c3); have k4 := sv_hcell hb (a := ⟨w.heap.size + 1, 0, none⟩) (v := .bool a1_0) (by first | (with_reducible assumption) | exact c4); have k5 := sv_hcell hb (a := ⟨w.heap.size + 1, 1, none⟩) (v := .slice A1_1 m1 c1_1) (by first | (with_reducible assumption) | exact c5); have k6 := sv_hcell hb (a := ⟨w.heap.size + 1, 2, none⟩) (v := .string a1_2) (by first | (with_reducible assumption) | exact c6); have k7 := sv_hcell hb (a := ⟨w.heap.size + 1, 3, none⟩) (v := .string a1_3) (by first | (with_reducible assumption) | exact c7)) | (go_at_call 27; (with_reducible refine (HC.out Y1 y1 Y2 y2 _ ?_ HD1.out hy2 hd2 ?_).mono ?_); (first | exact HY1.out | exact Kd.C_drew HY1.out); (first | (with_reducible assumption) | exact c8 | exact below_drew c8); rintro e w5 ⟨rfl, hb⟩; have B9 := (show Below w.heap.size w _ by first | (with_reducible assumption) | exact c8 | exact below_drew c8).trans (hb.mono (show Below w.heap.size w _ by first | (with_reducible assumption) | exact c8 | exact below_drew c8).size); have k0 := sv_hcell hb (a := ⟨w.heap.size, 0, none⟩) (v := .bool a0_0) (by first | (with_reducible assumption) | exact c0); have k1 := sv_hcell hb (a := ⟨w.heap.size, 1, none⟩) (v := .slice A0_1 m0 c0_1) (by first | (with_reducible assumption) | exact c1); have k2 := sv_hcell hb (a := ⟨w.heap.size, 2, none⟩) (v := .string a0_2) (by first | (with_reducible assumption) | exact c2); have k3 := sv_hcell hb (a := ⟨w.heap.size, 3, none⟩) (v := .string a0_3) (by first | (with_reducible assumption) | exact c3); have k4 := sv_hcell hb (a := ⟨w.heap.size + 1, 0, none⟩) (v := .bool a1_0) (by first | (with_reducible assumption) | exact c4); have k5 := sv_hcell hb (a := ⟨w.heap.size + 1, 1, none⟩) (v := .slice A1_1 m1 c1_1) (by first | (with_reducible assumption) | exact c5); have k6 := sv_hcell hb (a := ⟨w.heap.size + 1, 2, none⟩) (v := .string a1_2) (by first | (with_reducible assumption) | exact c6); have k7 := sv_hcell hb (a := ⟨w.heap.size + 1, 3, none⟩) (v := .string a1_3) (by first | (with_reducible assumption) | exact c7)))
    clear HQ1 HQ2 HP1 HP2 HC
    go_wp2
    go_quiet (fail)
    go_wp2
    go_ret2
    exact ⟨rfl, by first | exact B9 | exact pw_below_drewN B9 _⟩

end Go.Proofs.YtajglnedoeboaaaGreatDoor.Z
