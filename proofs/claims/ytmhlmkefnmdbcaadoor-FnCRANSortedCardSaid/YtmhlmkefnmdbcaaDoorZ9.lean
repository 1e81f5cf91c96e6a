-- Written by a program of this session (myprint.py).
import Derived.Test.YtmhlmkefnmdbcaaDoorZ0
import Derived.Test.YtmhlmkefnmdbcaaDoorZ5
import Derived.Test.YtmhlmkefnmdbcaaDoorZ8
import Derived.Test.YtmhlmkefnmdbcaaDoorGe
namespace Go.Proofs.YtmhlmkefnmdbcaaDoor.Z
open Go.Proofs.YtmhlmkefnmdbcaaDoor.Gw
open Go.RowKit Go.Proofs.YtmhlmkefnmdbcaaDoorW.PrintWords Go.Proofs.YtmhlmkefnmdbcaaDoorW.PrintLast Go.Proofs.YtmhlmkefnmdbcaaDoorW.PrintMore
attribute [local go_sem high] Go.Proofs.YtmhlmkefnmdbcaaDoor.Ge.gtr_str
attribute [local go_sem] max2_int min2_int max_two min_two max_three min_three max_four min_four   -- for this text's walks alone
set_option linter.unusedVariables false
set_option linter.unusedSimpArgs false

-- PLUGGED impl_CRANCompare: function 17 (a text of this session)
/-- How two lists of numbers of CRAN versions compare. -/
def cranC (a b : List Int) : Int := if cmpLists a b = 0 then (if a.length = b.length then 0 else if b.length < a.length then 1 else -1) else cmpLists a b
set_option maxRecDepth 100000 in
set_option maxHeartbeats 4000000 in
theorem cran_compare (A : Option Addr) (c : Nat) (a : List Int) (A' : Option Addr) (c' : Nat) (b : List Int) (w : World) (hr : Kd.C Big.kd w A a.length a) (hc : a.length ≤ c) (hr' : Kd.C Big.kd w A' b.length b) (hc' : b.length ≤ c') :
    Calls Tryd.prog 64 #[.agg #[.slice A a.length c], .agg #[.slice A' b.length c']] w fun e w' => e = .returned (.int .i64 (cranC a b)) ∧ Below w.heap.size w w' := by
  obtain ⟨W0, hW0⟩ : ∃ W0, w.alloc (.cells #[.slice A a.length c] 47) = W0 := ⟨_, rfl⟩
  obtain ⟨WA, hWA⟩ : ∃ WA, W0.alloc (.cells #[.slice A' b.length c'] 47) = WA := ⟨_, rfl⟩
  have hB0 : Below w.heap.size w W0 := by rw [← hW0]; exact (Below.refl _ _).alloc (Nat.le_refl _) _
  have hz0 : W0.heap.size = w.heap.size + 1 := by rw [← hW0]; simp
  have hB1 : Below W0.heap.size W0 WA := by rw [← hWA]; exact (Below.refl _ _).alloc (Nat.le_refl _) _
  have hBA : Below w.heap.size w WA := hB0.trans (hB1.mono (by omega))
  have k0 : WA.cell? ⟨w.heap.size, 0, none⟩ = some (.slice A a.length c) := cell_bel (by rw [← hW0]; exact (blk_cell (blk_new w _) 0).trans rfl) hB1
  have k1 : WA.cell? ⟨W0.heap.size, 0, none⟩ = some (.slice A' b.length c') := by rw [← hWA]; exact (blk_cell (blk_new W0 _) 0).trans rfl
  rw [hz0] at k1
  have hC := Aside0.mk (big_CompsCmp w.heap.size 0 A c a A' c' b WA k0 (Kd.C_below hr hBA) hc (Kd.C_below hr' hBA) hc')
  have HB := Aside0.mk hBA
  have hk : Aside0 (∀ W, Below WA.heap.size WA W → W.cell? ⟨w.heap.size, 0, none⟩ = some (.slice A a.length c) ∧ W.cell? ⟨w.heap.size + 1, 0, none⟩ = some (.slice A' b.length c')) := ⟨fun W h => ⟨cell_bel k0 h, cell_bel k1 h⟩⟩
  obtain ⟨x, hx⟩ : ∃ x, x = cmpLists a b := ⟨_, rfl⟩
  have HR : Aside0 (cranC a b = if x = 0 then (if a.length = b.length then 0 else if b.length < a.length then 1 else -1) else x) := ⟨by rw [hx]; rfl⟩
  rw [← hx] at hC
  have hla := Kd.C_max hr
  have hlb := Kd.C_max hr'
  obtain ⟨n, hn⟩ : ∃ n, n = a.length := ⟨_, rfl⟩
  obtain ⟨m, hm⟩ : ∃ m, m = b.length := ⟨_, rfl⟩
  rw [← hn, ← hm] at HR hk
  rw [← hm] at hC
  rw [← hn] at k0 hla hW0 ⊢
  rw [← hm] at k1 hlb hWA ⊢
  clear hr hr' hc hc' hB0 hB1 hBA hx hn hm
  rcases Decidable.em (x = 0) with rfl | h0
  · rcases Nat.lt_trichotomy n m with hl | hl | hl
    · have e1 : (n == m) = false := beq_eq_false_iff_ne.2 (by omega)
      have e2 : ((n : Int) == (m : Int)) = false := beq_eq_false_iff_ne.2 (by omega)
      have e3 : decide (m < n) = false := decide_eq_false (by omega)
      have e4 : decide ((m : Int) < (n : Int)) = false := decide_eq_false (by omega)
      have HV : Aside0 (cranC a b = -1) := ⟨by rw [HR.out, if_pos rfl, if_neg (by omega), if_neg (by omega)]⟩
      rw [HV.out]
      clear HR HV hl
      go_enter Tryd.func64, Tryd.ntmps64
      go_wp2_with (go_at_call 78; (with_reducible refine (hC.out).mono ?_))
      rintro e W3 ⟨rfl, hb⟩
      obtain ⟨q0, q1⟩ := hk.out W3 hb
      have HB3 : Aside0 (Below w.heap.size w W3) := ⟨HB.out.trans (hb.mono HB.out.size)⟩
      clear hb
      go_wp2
      go_ret
      exact ⟨rfl, HB3.out⟩
    · subst hl
      have HV : Aside0 (cranC a b = 0) := ⟨by rw [HR.out, if_pos rfl, if_pos rfl]⟩
      rw [HV.out]
      clear HR HV
      go_enter Tryd.func64, Tryd.ntmps64
      go_wp2_with (go_at_call 78; (with_reducible refine (hC.out).mono ?_))
      rintro e W3 ⟨rfl, hb⟩
      obtain ⟨q0, q1⟩ := hk.out W3 hb
      have HB3 : Aside0 (Below w.heap.size w W3) := ⟨HB.out.trans (hb.mono HB.out.size)⟩
      clear hb
      go_wp2
      go_ret
      exact ⟨rfl, HB3.out⟩
    · have e1 : (n == m) = false := beq_eq_false_iff_ne.2 (by omega)
      have e2 : ((n : Int) == (m : Int)) = false := beq_eq_false_iff_ne.2 (by omega)
      have e3 : decide (m < n) = true := decide_eq_true (by omega)
      have e4 : decide ((m : Int) < (n : Int)) = true := decide_eq_true (by omega)
      have HV : Aside0 (cranC a b = 1) := ⟨by rw [HR.out, if_pos rfl, if_neg (by omega), if_pos (by omega)]⟩
      rw [HV.out]
      clear HR HV hl
      go_enter Tryd.func64, Tryd.ntmps64
      go_wp2_with (go_at_call 78; (with_reducible refine (hC.out).mono ?_))
      rintro e W3 ⟨rfl, hb⟩
      obtain ⟨q0, q1⟩ := hk.out W3 hb
      have HB3 : Aside0 (Below w.heap.size w W3) := ⟨HB.out.trans (hb.mono HB.out.size)⟩
      clear hb
      go_wp2
      go_ret
      exact ⟨rfl, HB3.out⟩
  · have b0 : (x == 0) = false := beq_eq_false_iff_ne.2 h0
    have HV : Aside0 (cranC a b = x) := ⟨by rw [HR.out, if_neg h0]⟩
    rw [HV.out]
    clear HR HV h0
    go_enter Tryd.func64, Tryd.ntmps64
    go_wp2_with (go_at_call 78; (with_reducible refine (hC.out).mono ?_))
    rintro e W3 ⟨rfl, hb⟩
    obtain ⟨q0, q1⟩ := hk.out W3 hb
    have HB3 : Aside0 (Below w.heap.size w W3) := ⟨HB.out.trans (hb.mono HB.out.size)⟩
    clear hb
    go_wp2
    go_ret
    exact ⟨rfl, HB3.out⟩
set_option maxRecDepth 100000 in
set_option maxHeartbeats 4000000 in
theorem cran_Compare (A : Option Addr) (c : Nat) (a : List Int) (A' : Option Addr) (c' : Nat) (b : List Int) (w : World) (hr : Kd.C Big.kd w A a.length a) (hc : a.length ≤ c) (hr' : Kd.C Big.kd w A' b.length b) (hc' : b.length ≤ c') :
    Calls Tryd.prog 39 #[.agg #[.slice A a.length c], .iface 47 (.agg #[.slice A' b.length c'])] w fun e w' => e = .returned (.tuple #[.int .i64 (cranC a b), .nilIface]) ∧ Below w.heap.size w w' := by
  have hu := Tryd.underlying47
  have HF : Aside0 (∀ W, Below w.heap.size w W → Calls Tryd.prog 64 #[.agg #[.slice A a.length c], .agg #[.slice A' b.length c']] W fun e w' => e = .returned (.int .i64 (cranC a b)) ∧ Below W.heap.size W w') := ⟨fun W h => cran_compare A c a A' c' b W (Kd.C_below hr h) hc (Kd.C_below hr' h) hc'⟩
  have hta : ∀ W : World, (Instr.typeAssert (.iface 47 (.agg #[.slice A' b.length c'])) 85 47 true).run Tryd.prog W = .ok (.tuple #[.agg #[.slice A' b.length c'], .bool true]) W := fun W => by kernel_rfl
  clear hr hr'
  go_enter Tryd.func39, Tryd.ntmps39
  go_wp2_with (go_at_call 64; refine (HF.out _ ?hbel).mono ?_)
  case hbel => exact ((Below.refl _ _).alloc (Nat.le_refl _) _).alloc (by simp) _
  rintro e W1 ⟨rfl, hb⟩
  have HB : Aside0 (Below w.heap.size w W1) := ⟨by
    refine Below.trans ?_ (hb.mono ?_)
    · exact ((Below.refl _ _).alloc (Nat.le_refl _) _).alloc (by simp) _
    · simp; omega⟩
  clear hb
  go_wp2
  go_ret2
  exact ⟨rfl, HB.out⟩
def impl_CRANCompare.f (a0 a1 : ByteArray) : Option (Int × Bool) := if a0.size ≤ 100000 ∧ a1.size ≤ 100000 then some (match crP a0, crP a1 with
  | some x, some y => (cranC x y, true)
  | _, _ => (0, false)) else none
attribute [local go_sem] Ss.EV
set_option maxRecDepth 100000 in
set_option maxHeartbeats 4000000 in
theorem impl_CRANCompare.calls (a0 a1 : ByteArray) (r1 : Int) (r2 : Bool) (w : World) (hG : GW w) (h : impl_CRANCompare.f a0 a1 = some (r1, r2)) :
    Calls Tryd.prog 17 #[.string a0, .string a1] w fun e w' => e = .returned (.tuple #[.int .i64 r1, .bool r2]) ∧ Below w.heap.size w w' := by
  unfold impl_CRANCompare.f at h
  split at h
  · rename_i hf
    have HF1 := Aside0.mk hf.2
    have hP := Aside0.mk (cran_parse a0 w hf.1 hG)
    have HG := Aside0.mk hG
    have HH := Aside0.mk h
    clear h hf hG
    go_enter Tryd.func17, Tryd.ntmps17
    go_wp2_with (go_at_call 33; (with_reducible refine (hP.out).mono ?_))
    rintro e W1 ⟨hb1, h1⟩
    have HB1 := Aside0.mk hb1
    clear hP hb1
    rcases h1 with ⟨hn, a, rfl⟩ | ⟨x, A, c, hx, rfl, hr, hc⟩
    · have HV : Aside0 (r1 = 0 ∧ r2 = false) := ⟨by
        have h := HH.out
        rw [hn] at h
        simp only [Option.some.injEq, Prod.mk.injEq] at h
        exact ⟨h.1.symm, h.2.symm⟩⟩
      have HBE : Aside0 (Below w.heap.size w (W1.alloc (.cells #[.slice none 0 0] 47))) := ⟨HB1.out.alloc HB1.out.size _⟩
      clear hn HH
      go_wp2
      go_ret2
      exact ⟨by rw [HV.out.1, HV.out.2]; rfl, HBE.out⟩
    · obtain ⟨W2, hW2⟩ : ∃ W2, W1.alloc (.cells #[.slice A x.length c] 47) = W2 := ⟨_, rfl⟩
      have hB2 : Below W1.heap.size W1 W2 := by rw [← hW2]; exact (Below.refl _ _).alloc (Nat.le_refl _) _
      have k0 : W2.cell? ⟨W1.heap.size, 0, none⟩ = some (.slice A x.length c) := by rw [← hW2]; exact (blk_cell (blk_new W1 _) 0).trans rfl
      have HB2 : Aside0 (Below w.heap.size w W2) := ⟨HB1.out.trans (hB2.mono HB1.out.size)⟩
      have hQ := Aside0.mk (cran_parse a1 W2 HF1.out (GW.below HG.out HB2.out))
      have HX := Aside0.mk (And.intro hx (And.intro (Kd.C_below hr hB2) hc))
      have HK0 := Aside0.mk k0
      obtain ⟨n, hnx⟩ : ∃ n, n = x.length := ⟨_, rfl⟩
      have HNX := Aside0.mk hnx
      rw [← hnx] at hW2 k0 HK0 ⊢
      clear hx hr hc hB2 hnx
      go_wp2_with (go_at_call 33; (with_reducible refine (hQ.out).mono ?_))
      rintro e W3 ⟨hb3, h3⟩
      have HB3 : Aside0 (Below w.heap.size w W3) := ⟨HB2.out.trans (hb3.mono HB2.out.size)⟩
      have k3 := cell_bel HK0.out hb3
      have HB3' := Aside0.mk hb3
      clear hQ hb3 k0
      rcases h3 with ⟨hn, a, rfl⟩ | ⟨y, A', c', hy, rfl, hr, hc⟩
      · have HV : Aside0 (r1 = 0 ∧ r2 = false) := ⟨by
          have h := HH.out
          rw [hn, HX.out.1] at h
          simp only [Option.some.injEq, Prod.mk.injEq] at h
          exact ⟨h.1.symm, h.2.symm⟩⟩
        have HBE : Aside0 (Below w.heap.size w (W3.alloc (.cells #[.slice none 0 0] 47))) := ⟨HB3.out.alloc HB3.out.size _⟩
        clear hn HH
        go_wp2
        go_ret2
        exact ⟨by rw [HV.out.1, HV.out.2]; rfl, HBE.out⟩
      · have HV : Aside0 (r1 = cranC x y ∧ r2 = true) := ⟨by
          have h := HH.out
          rw [hy, HX.out.1] at h
          simp only [Option.some.injEq, Prod.mk.injEq] at h
          exact ⟨h.1.symm, h.2.symm⟩⟩
        obtain ⟨W4, hW4⟩ : ∃ W4, W3.alloc (.cells #[.slice A' y.length c'] 47) = W4 := ⟨_, rfl⟩
        have hB4 : Below W3.heap.size W3 W4 := by rw [← hW4]; exact (Below.refl _ _).alloc (Nat.le_refl _) _
        have k4 := cell_bel k3 hB4
        have k5 : W4.cell? ⟨W3.heap.size, 0, none⟩ = some (.slice A' y.length c') := by rw [← hW4]; exact (blk_cell (blk_new W3 _) 0).trans rfl
        have HB4 : Aside0 (Below w.heap.size w W4) := ⟨HB3.out.trans (hB4.mono HB3.out.size)⟩
        have hCm := cran_Compare A c x A' c' y W4 (Kd.C_below (Kd.C_below HX.out.2.1 HB3'.out) hB4) HX.out.2.2 (Kd.C_below hr hB4) hc
        rw [← HNX.out] at hCm
        have HCm := Aside0.mk hCm
        clear hy hr hc hB4 HH hCm
        go_wp2_with (go_at_call 39; (with_reducible refine (HCm.out).mono ?_))
        rintro e W5 ⟨rfl, hb5⟩
        have HB5 : Aside0 (Below w.heap.size w W5) := ⟨HB4.out.trans (hb5.mono HB4.out.size)⟩
        clear hb5
        go_wp2
        go_quiet (fail)
        go_wp2
        go_ret2
        exact ⟨by rw [HV.out.1, HV.out.2]; rfl, by first | exact HB5.out | exact pw_below_drewN HB5.out _⟩
  · cases h

end Go.Proofs.YtmhlmkefnmdbcaaDoor.Z
