-- Written by a program of this session (myprint.py).
import Derived.Test.YtmhlmkefnmdbcaaDoorZ0
import Derived.Test.YtmhlmkefnmdbcaaDoorZ5
import Derived.Test.YtmhlmkefnmdbcaaDoorZ6
import Derived.Test.YtmhlmkefnmdbcaaDoorZ7
import Derived.Test.YtmhlmkefnmdbcaaDoorGe
namespace Go.Proofs.YtmhlmkefnmdbcaaDoor.Z
open Go.Proofs.YtmhlmkefnmdbcaaDoor.Gw
open Go.RowKit Go.Proofs.YtmhlmkefnmdbcaaDoorW.PrintWords Go.Proofs.YtmhlmkefnmdbcaaDoorW.PrintLast Go.Proofs.YtmhlmkefnmdbcaaDoorW.PrintMore
attribute [local go_sem high] Go.Proofs.YtmhlmkefnmdbcaaDoor.Ge.gtr_str
attribute [local go_sem] max2_int min2_int max_two min_two max_three min_three max_four min_four   -- for this text's walks alone
set_option linter.unusedVariables false
set_option linter.unusedSimpArgs false

-- PLUGGED impl_CRANParse: function 13 (a text of this session)
abbrev CPI : Type := S58
/-- A number as plain data. -/
def plI (z : Int) : CPI := ⟨decide (z < 0), Ss.plainS z⟩
theorem impl_plains_l (l : List Int) (hl : l.length ≤ 1000000) (d : Nat) : ∀ (i : Nat) (acc : List CPI), i + d = l.length → acc.length ≤ i → Ev (fun k => impl_plains.l0 k acc (l.map plS) ((l.map plS).length : Int) (i : Int)) (acc ++ (l.drop i).map plI) := by
  induction d with
  | zero =>
    intro i acc h ha
    refine Ev.step (fun _ => by rw [impl_plains.l0]) (Evs.ev_neg (by rw [List.length_map]; omega) (Evs.ev_now ?_))
    rw [List.drop_of_length_le (by omega)]
    simp
  | succ d ih =>
    intro i acc h ha
    have hi : i < l.length := by omega
    have e : l.drop i = l[i] :: l.drop (i + 1) := List.drop_eq_getElem_cons hi
    have hr : rd_T81 (l.map plS) (i : Int) = plS l[i] := by
      unfold rd_T81
      rw [Int.toNat_natCast, List.getD_eq_getElem?_getD, List.getElem?_map, List.getElem?_eq_getElem hi]
      rfl
    have hw : wrap64 ((i : Int) + 1) = ((i + 1 : Nat) : Int) := Evs.wrap_nat (by omega)
    refine Ev.step (fun _ => by rw [impl_plains.l0, hr, hw]) (Evs.ev_pos (by rw [List.length_map]; omega) (Evs.ev_pos (by omega) (Evs.ev_pos (by rw [List.length_map]; omega) (Evs.ev_pos (by omega) ?_))))
    refine Evs.ev_eq (ih (i + 1) (acc ++ [plI l[i]]) (by omega) (by simp; omega)) ?_
    rw [e, List.map_cons, List.append_assoc]
    rfl
theorem impl_plains_ev (l : List Int) (hl : l.length ≤ 1000000) : ∃ k, impl_plains.f k (l.map plS) = some (l.map plI) := by
  obtain ⟨k, hk⟩ := impl_plains_l l hl l.length 0 [] (by omega) (Nat.le_refl _)
  exact ⟨k, hk k (Nat.le_refl k)⟩
theorem cvs_small : ∀ (ps : List ByteArray) (zs : List Int) (n : Nat), (∀ x ∈ ps, x.size ≤ n) → cvs ps = some zs → zs.length = ps.length ∧ ∀ z ∈ zs, z.natAbs ≤ Ss.tp n
  | [], zs, n, _, h => by
    have : zs = [] := (Option.some.inj h).symm
    subst this
    exact ⟨rfl, fun z hz => by simp at hz⟩
  | x :: ps, zs, n, hn, h => by
    rw [cvs] at h
    cases hc : Ss.cvt x with
    | none => rw [hc] at h; cases h
    | some z =>
      rw [hc] at h
      obtain ⟨l, hl, hz⟩ := Option.map_eq_some_iff.1 h
      subst hz
      obtain ⟨h1, h2⟩ := cvs_small ps l n (fun y hy => hn y (by simp [hy])) hl
      refine ⟨by simp [h1], fun y hy => ?_⟩
      rcases List.mem_cons.1 hy with rfl | hy
      · exact Nat.le_trans (Ss.cvt_small hc) (Ss.tp_le (hn x (by simp)))
      · exact h2 y hy
theorem crP_small {s : ByteArray} {zs : List Int} (h : crP s = some zs) : zs.length ≤ s.size + 1 ∧ ∀ z ∈ zs, z.natAbs ≤ Ss.tp s.size := by
  unfold crP at h
  split at h
  · have : zs = [] := (Option.some.inj h).symm
    subst this
    exact ⟨by simp, fun z hz => by simp at hz⟩
  · obtain ⟨h1, h2⟩ := crPs_len s
    obtain ⟨h3, h4⟩ := cvs_small (crPs s) zs s.size h2 h
    exact ⟨by omega, h4⟩
set_option maxRecDepth 100000 in
set_option maxHeartbeats 4000000 in
theorem cran_told (A : Option Addr) (c : Nat) (zs : List Int) (n : Nat) (w : World) (hr : Kd.C Big.kd w A zs.length zs) (hc : zs.length ≤ c) (hn : n ≤ 1000000) (hz : ∀ z ∈ zs, z.natAbs ≤ Ss.tp n) (hl : zs.length ≤ 1000000) :
    Calls Tryd.prog 35 #[.agg #[.slice A zs.length c]] w fun e w' => ∃ v, e = .returned v ∧ Kd.R k81 81 w' w.heap.size (fun _ => True) v (zs.map plS) ∧ Below w.heap.size w w' := by
  obtain ⟨W0, hW0⟩ : ∃ W0, w.alloc (.cells #[.slice A zs.length c] 47) = W0 := ⟨_, rfl⟩
  have hB0 : Below w.heap.size w W0 := by rw [← hW0]; exact (Below.refl _ _).alloc (Nat.le_refl _) _
  have k0 : W0.cell? ⟨w.heap.size, 0, none⟩ = some (.slice A zs.length c) := by rw [← hW0]; exact (blk_cell (blk_new w _) 0).trans rfl
  have hC := Aside0.mk (big_zzPlains A c zs n W0 (Kd.C_below hr hB0) hc hn hz hl)
  have HB := Aside0.mk hB0
  obtain ⟨m, hm⟩ : ∃ m, m = zs.length := ⟨_, rfl⟩
  rw [← hm] at hW0 hC k0 ⊢
  clear hr hc hn hz hl hB0 hm
  go_enter Tryd.func35, Tryd.ntmps35
  go_wp2_with (go_at_call 62; (with_reducible refine (hC.out).mono ?_))
  rintro e W1 ⟨v, rfl, hv, hb⟩
  have HV : Aside0 (Kd.R k81 81 W1 w.heap.size (fun _ => True) v (zs.map plS)) := ⟨Kd.R_lower hv HB.out.size⟩
  have HB1 : Aside0 (Below w.heap.size w W1) := ⟨HB.out.trans (hb.mono HB.out.size)⟩
  clear hv hb
  go_wp2
  go_ret
  exact ⟨_, rfl, HV.out, HB1.out⟩
def impl_CRANParse.f (a0 : ByteArray) : Option (List CPI × Bool) := if a0.size ≤ 100000 then some (match crP a0 with
  | some x => (x.map plI, true)
  | none => ([], false)) else none
attribute [local go_sem] Ss.EV
set_option maxRecDepth 100000 in
set_option maxHeartbeats 4000000 in
theorem impl_CRANParse.calls (a0 : ByteArray) (r1 : List CPI) (r2 : Bool) (w : World) (hG : GW w) (h : impl_CRANParse.f a0 = some (r1, r2)) :
    Calls Tryd.prog 13 #[.string a0] w fun e w' => ∃ v1_ : Value, e = .returned (.tuple #[v1_, .bool r2]) ∧ Kd.R k58 58 w' w.heap.size (fun _ => True) v1_ r1 ∧ Below w.heap.size w w' := by
  unfold impl_CRANParse.f at h
  split at h
  · rename_i hf
    have hP := Aside0.mk (cran_parse a0 w hf hG)
    have HF := Aside0.mk hf
    have HH := Aside0.mk h
    clear h hf hG
    go_enter Tryd.func13, Tryd.ntmps13
    go_wp2_with (go_at_call 33; (with_reducible refine (hP.out).mono ?_))
    rintro e W1 ⟨hb1, h1⟩
    have HB1 := Aside0.mk hb1
    clear hP hb1
    rcases h1 with ⟨hn, a, rfl⟩ | ⟨x, A, c, hx, rfl, hr, hc⟩
    · have HV : Aside0 (r1 = [] ∧ r2 = false) := ⟨by
        have h := HH.out
        rw [hn] at h
        simp only [Option.some.injEq, Prod.mk.injEq] at h
        exact ⟨h.1.symm, h.2.symm⟩⟩
      have HBE : Aside0 (Below w.heap.size w (W1.alloc (.cells #[.slice none 0 0] 47))) := ⟨HB1.out.alloc HB1.out.size _⟩
      clear hn HH
      go_wp2
      go_ret2
      refine ⟨.slice none 0 0, by rw [HV.out.2]; rfl, ?_, HBE.out⟩
      rw [HV.out.1]
      exact Kd.R_nil _ _ _ _ _
    · have HV : Aside0 (r1 = x.map plI ∧ r2 = true) := ⟨by
        have h := HH.out
        rw [hx] at h
        simp only [Option.some.injEq, Prod.mk.injEq] at h
        exact ⟨h.1.symm, h.2.symm⟩⟩
      obtain ⟨hs1, hs2⟩ := crP_small hx
      have hfs := HF.out
      obtain ⟨k, hk⟩ := impl_plains_ev x (by omega)
      obtain ⟨W2, hW2⟩ : ∃ W2, W1.alloc (.cells #[.slice A x.length c] 47) = W2 := ⟨_, rfl⟩
      have hB2 : Below W1.heap.size W1 W2 := by rw [← hW2]; exact (Below.refl _ _).alloc (Nat.le_refl _) _
      have k0 : W2.cell? ⟨W1.heap.size, 0, none⟩ = some (.slice A x.length c) := by rw [← hW2]; exact (blk_cell (blk_new W1 _) 0).trans rfl
      have HB2 : Aside0 (Below w.heap.size w W2) := ⟨HB1.out.trans (hB2.mono HB1.out.size)⟩
      have hT := Aside0.mk (cran_told A c x a0.size W2 (Kd.C_below hr hB2) hc (by omega) hs2 (by omega))
      have HK := Aside0.mk hk
      obtain ⟨n, hnx⟩ : ∃ n, n = x.length := ⟨_, rfl⟩
      rw [← hnx] at hW2 k0 hT ⊢
      clear hx hr hc hB2 hnx hs1 hs2 hk hfs HH
      go_wp2_with (go_at_call 35; (with_reducible refine (hT.out).mono ?_))
      rintro e W3 ⟨v, rfl, hv, hb3⟩
      obtain ⟨A3, c3, rfl, hc3, hr3⟩ := Kd.R_reads hv
      have HB3 : Aside0 (Below w.heap.size w W3) := ⟨HB2.out.trans (hb3.mono HB2.out.size)⟩
      have hQ0 := impl_plains.calls k A3 c3 (x.map plS) (x.map plI) W3 hr3 hc3 HK.out
      rw [List.length_map] at hQ0
      have hQ := Aside0.mk hQ0
      clear hv hb3 hr3 hc3 hT hQ0
      go_wp2_with (go_at_call 34; (with_reducible refine (hQ.out).mono ?_))
      rintro e W4 ⟨v4, rfl, hv4, hb4⟩
      have HV4 : Aside0 (Kd.R k58 58 W4 w.heap.size (fun _ => True) v4 r1) := ⟨by rw [HV.out.1]; exact Kd.R_lower hv4 HB3.out.size⟩
      have HB4 : Aside0 (Below w.heap.size w W4) := ⟨HB3.out.trans (hb4.mono HB3.out.size)⟩
      clear hv4 hb4
      go_wp2
      go_ret2
      exact ⟨v4, by rw [HV.out.2]; rfl, HV4.out, HB4.out⟩
  · cases h

end Go.Proofs.YtmhlmkefnmdbcaaDoor.Z
