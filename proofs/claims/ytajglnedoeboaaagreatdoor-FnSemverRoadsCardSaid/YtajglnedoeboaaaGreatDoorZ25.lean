-- Written by a program of this session (myprint.py).
import Derived.Test.YtajglnedoeboaaaGreatDoorZ0
import Derived.Test.YtajglnedoeboaaaGreatDoorZ4
import Derived.Test.YtajglnedoeboaaaGreatDoorZ6
import Derived.Test.YtajglnedoeboaaaGreatDoorZ7
import Derived.Test.YtajglnedoeboaaaGreatDoorZ11
import Derived.Test.YtajglnedoeboaaaGreatDoorBg
import Derived.Test.YtajglnedoeboaaaGreatDoorBn
import Derived.Test.YtajglnedoeboaaaGreatDoorEv
import Derived.Test.YtajglnedoeboaaaGreatDoorGe
namespace Go.Proofs.YtajglnedoeboaaaGreatDoor.Z
open Go.Proofs.YtajglnedoeboaaaGreatDoor.Gw
open Go.RowKit Go.Proofs.YtajglnedoeboaaaGreatDoorW.PrintWords Go.Proofs.YtajglnedoeboaaaGreatDoorW.PrintLast Go.Proofs.YtajglnedoeboaaaGreatDoorW.PrintMore
attribute [local go_sem high] Go.Proofs.YtajglnedoeboaaaGreatDoor.Ge.gtr_str
attribute [local go_sem] max2_int min2_int max_two min_two max_three min_three max_four min_four   -- for this text's walks alone
set_option linter.unusedVariables false
set_option linter.unusedSimpArgs false

-- PLUGGED impl_CompareNumbers: function 15 (a text of this session)
abbrev SI : Type := S66
abbrev SZ : Type := S85
def toZ (x : SI) : SZ := ⟨x.f0, x.f1⟩
def zvI (x : SI) : Int := zval x.f0 x.f1
theorem impl_bigs_l (l : List SI) (hl : l.length ≤ 1000000) (d : Nat) : ∀ (i : Nat) (acc : List SZ), i + d = l.length → acc.length ≤ i → Ev (fun k => impl_bigs.l0 k acc l (l.length : Int) (i : Int)) (acc ++ (l.drop i).map toZ) := by
  induction d with
  | zero =>
    intro i acc h ha
    refine Ev.step (fun _ => by rw [impl_bigs.l0]) (Evs.ev_neg (by omega) (Evs.ev_now ?_))
    rw [List.drop_of_length_le (by omega)]
    simp
  | succ d ih =>
    intro i acc h ha
    have hi : i < l.length := by omega
    have e : l.drop i = l[i] :: l.drop (i + 1) := List.drop_eq_getElem_cons hi
    have hr : rd_T66 l (i : Int) = l[i] := by
      unfold rd_T66
      rw [Int.toNat_natCast, List.getD_eq_getElem?_getD, List.getElem?_eq_getElem hi]
      rfl
    have hw : wrap64 ((i : Int) + 1) = ((i + 1 : Nat) : Int) := Evs.wrap_nat (by omega)
    refine Ev.step (fun _ => by rw [impl_bigs.l0, hr, hw]) (Evs.ev_pos (by omega) (Evs.ev_pos (by omega) (Evs.ev_pos (by omega) (Evs.ev_pos (by omega) ?_))))
    refine Evs.ev_eq (ih (i + 1) (acc ++ [toZ l[i]]) (by omega) (by simp; omega)) ?_
    rw [e, List.map_cons, List.append_assoc]
    rfl
theorem impl_bigs_ev (l : List SI) (hl : l.length ≤ 1000000) : ∃ k, impl_bigs.f k l = some (l.map toZ) := by
  obtain ⟨k, hk⟩ := impl_bigs_l l hl l.length 0 [] (by omega) (Nat.le_refl _)
  exact ⟨k, hk k (Nat.le_refl k)⟩
def fitI (l : List SI) : Bool := decide (l.length ≤ 1000000) && l.all fun x => decide (x.f1.size ≤ 1000000)
theorem fitI_of {l : List SI} (h : fitI l = true) : l.length ≤ 1000000 ∧ ∀ x ∈ l, x.f1.size ≤ 1000000 := by
  unfold fitI at h
  rw [Bool.and_eq_true, decide_eq_true_eq, List.all_eq_true] at h
  exact ⟨h.1, fun x hx => of_decide_eq_true (h.2 x hx)⟩
def impl_CompareNumbers.f (l0 l1 : List SI) : Option Int := if fitI l0 && fitI l1 then some (cmpLists (l0.map zvI) (l1.map zvI)) else none
set_option maxRecDepth 100000 in
set_option maxHeartbeats 4000000 in
theorem big_ZZComponents (A : Option Addr) (c : Nat) (a : List SZ) (A' : Option Addr) (c' : Nat) (b : List SZ) (w : World) (hr : Kd.C k85 w A a.length a) (hc : a.length ≤ c) (hr' : Kd.C k85 w A' b.length b) (hc' : b.length ≤ c')
    (ha : a.length ≤ 1000000 ∧ ∀ x ∈ a, x.f1.size ≤ 1000000) (hb : b.length ≤ 1000000 ∧ ∀ x ∈ b, x.f1.size ≤ 1000000) :
    Calls Tryz.prog 34 #[.slice A a.length c, .slice A' b.length c'] w fun e w' => e = .returned (.int .i64 (cmpLists (a.map zvS) (b.map zvS))) ∧ Below w.heap.size w w' := by
  have HS1 := Aside0.mk (big_zzBigs A c a w hr hc ha.2 ha.1)
  have HR' := Aside0.mk hr'
  have HH := Aside0.mk hb
  clear hr hr' ha hb
  go_enter Tryz.func34, Tryz.ntmps34
  go_wp2_with (go_at_call 50; refine HS1.out.mono ?_)
  rintro e W1 ⟨v, rfl, hR, hB⟩
  obtain ⟨X, cx, hv, hcx, hRd⟩ := Kd.R_reads hR
  subst hv
  have HRd := Aside0.mk hRd
  have HB := Aside0.mk hB
  clear hR hRd hB HS1
  obtain ⟨WA, hWA⟩ : ∃ WA : World, WA = W1.alloc (.cells #[.slice X a.length cx] 45) := ⟨_, rfl⟩
  have hBA : Below W1.heap.size W1 WA := by rw [hWA]; exact (Below.refl _ W1).alloc (Nat.le_refl _) _
  have h1 : WA.heap[W1.heap.size]? = some (.cells #[.slice X a.length cx] 45 (0, 0)) := by rw [hWA]; exact blk_new W1 _
  have HBA : Aside0 (Below w.heap.size w WA) := ⟨HB.out.trans (hBA.mono HB.out.size)⟩
  have HS2 := Aside0.mk (big_zzBigs A' c' b WA (Kd.C_below HR'.out HBA.out) hc' HH.out.2 HH.out.1)
  have HRA := Aside0.mk (Kd.C_below HRd.out hBA)
  have H1 := Aside0.mk h1
  have HWA := Aside0.mk hWA
  rw [List.length_map] at hcx
  clear hWA hBA h1
  go_wp2_with (go_at_call 50; rw [← HWA.out]; refine HS2.out.mono ?_)
  rintro e W2 ⟨v, rfl, hR2, hB2⟩
  obtain ⟨Y, cy, hv, hcy, hRd2⟩ := Kd.R_reads hR2
  subst hv
  have HB2 : Aside0 (Below w.heap.size w W2) := ⟨HBA.out.trans (hB2.mono HBA.out.size)⟩
  have hcmp := big_CompsCmp W1.heap.size 0 X cx (a.map zvS) Y cy (b.map zvS) W2 (by rw [List.length_map]; exact cell_bel ((blk_cell H1.out 0).trans rfl) hB2) (Kd.C_below HRA.out hB2) (by rw [List.length_map]; exact hcx) hRd2 hcy
  rw [List.length_map] at hcmp
  have HCMP := Aside0.mk hcmp
  clear hcmp hR2 hRd2 hB2 HS2 HRA H1
  go_wp2_with (go_at_call 51; refine HCMP.out.mono ?_)
  rintro e W3 ⟨rfl, hB3⟩
  have HB3 : Aside0 (Below w.heap.size w W3) := ⟨HB2.out.trans (hB3.mono HB2.out.size)⟩
  clear hB3 HCMP
  go_wp2
  go_ret
  exact ⟨rfl, HB3.out⟩
theorem map_zv (l : List SI) : (l.map toZ).map zvS = l.map zvI := by rw [List.map_map]; rfl
set_option maxRecDepth 100000 in
set_option maxHeartbeats 4000000 in
theorem impl_CompareNumbers.calls (A0 : Option Addr) (c0 : Nat) (l0 : List SI) (A1 : Option Addr) (c1 : Nat) (l1 : List SI) (r : Int) (w : World) (hr0 : Kd.C k66 w A0 l0.length l0) (hc0 : l0.length ≤ c0) (hr1 : Kd.C k66 w A1 l1.length l1) (hc1 : l1.length ≤ c1) (h : impl_CompareNumbers.f l0 l1 = some r) :
    Calls Tryz.prog 15 #[.slice A0 l0.length c0, .slice A1 l1.length c1] w fun e w' => e = .returned (.int .i64 r) ∧ Below w.heap.size w w' := by
  unfold impl_CompareNumbers.f at h
  cases hf : (fitI l0 && fitI l1) with
  | false => rw [hf] at h; simp at h
  | true =>
    rw [hf, if_pos rfl] at h
    obtain rfl := Option.some.inj h
    rw [Bool.and_eq_true] at hf
    obtain ⟨f0, f1⟩ := hf
    obtain ⟨l0a, l0b⟩ := fitI_of f0
    obtain ⟨l1a, l1b⟩ := fitI_of f1
    obtain ⟨k0, hk0⟩ := impl_bigs_ev l0 l0a
    obtain ⟨k1, hk1⟩ := impl_bigs_ev l1 l1a
    have HC0 := Aside0.mk (impl_bigs.calls k0 A0 c0 l0 _ w hr0 hc0 hk0)
    have HR1 := Aside0.mk hr1
    have HK1 := Aside0.mk hk1
    have L0 : Aside0 ((l0.map toZ).length ≤ 1000000 ∧ ∀ x ∈ l0.map toZ, x.f1.size ≤ 1000000) := ⟨⟨by rw [List.length_map]; exact l0a, fun x hx => by obtain ⟨y, hy, rfl⟩ := List.mem_map.1 hx; exact l0b y hy⟩⟩
    have L1 : Aside0 ((l1.map toZ).length ≤ 1000000 ∧ ∀ x ∈ l1.map toZ, x.f1.size ≤ 1000000) := ⟨⟨by rw [List.length_map]; exact l1a, fun x hx => by obtain ⟨y, hy, rfl⟩ := List.mem_map.1 hx; exact l1b y hy⟩⟩
    clear hr0 hr1 h f0 f1 l0a l0b l1a l1b hk0 hk1
    go_enter Tryz.func15, Tryz.ntmps15
    go_wp2_with (go_at_call 35; refine HC0.out.mono ?_)
    rintro e W1 ⟨v, rfl, hR, hB⟩
    obtain ⟨X, cx, hv, hcx, hRd⟩ := Kd.R_reads hR
    subst hv
    rw [List.length_map] at hcx
    have HRd := Aside0.mk hRd
    have HB := Aside0.mk hB
    have HC1 := Aside0.mk (impl_bigs.calls k1 A1 c1 l1 _ W1 (Kd.C_below HR1.out hB) hc1 HK1.out)
    clear hR hRd hB HC0
    go_wp2_with (go_at_call 35; refine HC1.out.mono ?_)
    rintro e W2 ⟨v, rfl, hR2, hB2⟩
    obtain ⟨Y, cy, hv, hcy, hRd2⟩ := Kd.R_reads hR2
    subst hv
    have hz := big_ZZComponents X cx (l0.map toZ) Y cy (l1.map toZ) W2 (Kd.C_below HRd.out hB2) (by rw [List.length_map]; exact hcx) hRd2 hcy L0.out L1.out
    rw [map_zv, map_zv, List.length_map, List.length_map] at hz
    have HZ := Aside0.mk hz
    have HB2 : Aside0 (Below w.heap.size w W2) := ⟨HB.out.trans (hB2.mono HB.out.size)⟩
    clear hR2 hRd2 hB2 hz HC1
    go_wp2_with (go_at_call 34; refine HZ.out.mono ?_)
    rintro e W3 ⟨rfl, hB3⟩
    have HB3 : Aside0 (Below w.heap.size w W3) := ⟨HB2.out.trans (hB3.mono HB2.out.size)⟩
    clear hB3 HZ
    go_wp2
    go_ret
    exact ⟨rfl, HB3.out⟩

end Go.Proofs.YtajglnedoeboaaaGreatDoor.Z
