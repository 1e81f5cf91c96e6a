-- Written by a program of this session (myprint.py).
import Derived.Test.YtajglnedoeboaaaDoorZ0
import Derived.Test.YtajglnedoeboaaaDoorBg
import Derived.Test.YtajglnedoeboaaaDoorSsC
import Derived.Test.YtajglnedoeboaaaDoorGe
namespace Go.Proofs.YtajglnedoeboaaaDoor.Z
open Go.Proofs.YtajglnedoeboaaaDoor.Gw
open Go.RowKit Go.Proofs.YtajglnedoeboaaaDoorW.PrintWords Go.Proofs.YtajglnedoeboaaaDoorW.PrintLast Go.Proofs.YtajglnedoeboaaaDoorW.PrintMore
attribute [local go_sem high] Go.Proofs.YtajglnedoeboaaaDoor.Ge.gtr_str
attribute [local go_sem] max2_int min2_int max_two min_two max_three min_three max_four min_four   -- for this text's walks alone
set_option linter.unusedVariables false
set_option linter.unusedSimpArgs false

-- PLUGGED semantic_zzPlains: function 41 (a text of this session)
theorem zp_at {w : World} {A : Option Addr} {n : Nat} {zs : List Int} (h : Kd.C Big.kd w A n zs) (i : Nat) (h1 : i < zs.length) (hn : n = zs.length) : ∃ ad v, A = some ad ∧ Big.At w zs[i] v ∧ w.cell? (ad.add i) = some v := by
  obtain ⟨ad, c, e, _, hK, hc0⟩ := Kd.C_get h zs[i] (i : Int) (by omega) (by omega)
  have hc : ∀ j u, c[j]? = some u → w.cell? (ad.add (i * 1 + j)) = some u := hc0
  have hg : zs.getD (i : Int).toNat zs[i] = zs[i] := by rw [Int.toNat_natCast, List.getD_eq_getElem?_getD, List.getElem?_eq_getElem h1]; rfl
  rw [hg] at hK
  obtain ⟨v, rfl, hA⟩ := hK
  refine ⟨ad, v, e, hA, ?_⟩
  have := hc 0 v rfl
  rwa [Nat.mul_one, Nat.add_zero] at this
def plS (z : Int) : S77 := ⟨decide (z < 0), Ss.plainS z⟩
theorem zp_info : (Tryd.prog.info? 77).map (fun i => (i.zero, i.size, i.bytes)) = some (some (.agg #[.bool false, .string ⟨#[]⟩]), 2, 24) := by kernel_rfl
def zpN : Value → Nat
  | .int _ n => n.toNat
  | _ => 0
set_option maxRecDepth 100000 in
set_option maxHeartbeats 4000000 in
theorem big_zzPlains (A : Option Addr) (c : Nat) (zs : List Int) (n : Nat) (w : World) (hr : Kd.C Big.kd w A zs.length zs) (hc : zs.length ≤ c) (hn : n ≤ 1000000) (hz : ∀ z ∈ zs, z.natAbs ≤ Ss.tp n) (hl : zs.length ≤ 1000000) :
    Calls Tryd.prog 41 #[.slice A zs.length c] w fun e w' => ∃ v, e = .returned v ∧ Kd.R k77 77 w' w.heap.size (fun _ => True) v (zs.map plS) ∧ Below w.heap.size w w' := by
  have HR := Aside0.mk hr
  have HC := Aside0.mk hc
  have HZ : Aside0 (n ≤ 1000000 ∧ ∀ z ∈ zs, z.natAbs ≤ Ss.tp n) := ⟨hn, hz⟩
  clear hr hc hz hn
  have hu := Tryd.underlying77
  go_enter Tryd.func41, Tryd.ntmps41
  go_wp2
  go_loopw [3, 8] (fun v3 v8 wr => ∃ i : Nat, v8 = .int .i64 (i : Int) ∧ Aside0 (Kd.R k77 77 wr w.heap.size (fun _ => True) v3 ((zs.map plS).take i)) ∧ Aside0 (Below w.heap.size w wr) ∧ i ≤ zs.length) (fun v3 v8 wr => zs.length - zpN v8)
  case atStart => exact ⟨0, rfl, ⟨Kd.R_nil _ _ _ _ _⟩, ⟨Below.refl _ _⟩, by omega⟩
  case round =>
    obtain ⟨i, rfl, HO, HB, hi⟩ := hrel
    by_cases h : i < zs.length
    · have hd : decide ((i : Int) < (zs.length : Int)) = true := decide_eq_true (by omega)
      have hi0 : (0 : Int) ≤ (i : Int) := by omega
      have hi1 : (i : Int) < (zs.length : Int) := by omega
      obtain ⟨ad, v, hA, hAt, hx⟩ := zp_at (Kd.C_below HR.out HB.out) i h rfl
      subst hA
      have hzi := HZ.out.2 _ (List.getElem_mem h)
      have HT : Aside0 ((zs.map plS).take i ++ [plS zs[i]] = (zs.map plS).take (i + 1)) := ⟨by rw [← List.take_append_getElem (by simpa using h : i < (zs.map plS).length), List.getElem_map]⟩
      generalize zs[i] = z at hAt hzi HT
      have hC := Aside0.mk (Ss.ss_plain v z wr n HZ.out.1 hzi hAt)
      obtain ⟨o, hvo⟩ : ∃ o, v = .pointer (some ⟨o, 0, none⟩) := by obtain ⟨o, A, c, neg, ws, e, _⟩ := hAt; exact ⟨o, e⟩
      subst hvo
      obtain ⟨x, hxx⟩ : ∃ x, x = plS z := ⟨_, rfl⟩
      have hx0 : decide (z < 0) = x.f0 := by rw [hxx]; rfl
      have hx1 : Ss.plainS z = x.f1 := by rw [hxx]; rfl
      rw [hx0, hx1] at hC
      rw [← hxx] at HT
      have HL : Aside0 (((zs.map plS).take i).length + 1 ≤ 1000001) := ⟨by simp; omega⟩
      clear hAt hzi hxx hx0 hx1
      go_wp2_with (go_at_call 56; (with_reducible refine (hC.out).mono ?_))
      rintro e W1 ⟨rfl, hb⟩
      have HB1 : Aside0 (Below w.heap.size w W1) := ⟨HB.out.trans (hb.mono HB.out.size)⟩
      have HO1 : Aside0 (Kd.R k77 77 W1 w.heap.size (fun _ => True) u3 ((zs.map plS).take i)) := ⟨Kd.R_below HO.out hb⟩
      have HM : Aside0 (k77.M W1 w.heap.size (fun k => True ∧ some k ≠ u3.ownBlock) x [.bool x.f0, .string x.f1]) := ⟨k77_mkM _ _ _ _⟩
      clear hb hC
      go_wp2_with ((with_reducible refine gate_builtin (b := .append) (xs := #[.tmp 12, .tmp 15]) rfl ?_); at_builtin; refine Kd.R_append k77 (w0 := w) w.heap.size rfl (.tmp 12) (.tmp 15) 44 77 (.agg #[.bool false, .string ⟨#[]⟩]) 24 rfl Tryd.underlying44 zp_info rfl (by decide) (by omega) u3 ((zs.map plS).take i) x [.bool x.f0, .string x.f1] (fun _ => True) (fun k => True ∧ some k ≠ u3.ownBlock) rfl (by first | rfl | (go_simp; done)) HM.out (fun _ hk => hk) (fun _ _ => trivial) HO1.out HB1.out HB1.out.size (by have := HL.out; omega) ?_)
      intro v1 W2 ho hb2 hg hat
      rw [HT.out] at ho
      have HO2 := Aside0.mk ho
      have HB2 := Aside0.mk hb2
      clear ho hb2 hg hat HM HO1 HB1
      go_wp2
      go_roundw
      case rel => exact ⟨i + 1, rfl, HO2, HB2, by omega⟩
      case measure =>
        show zs.length - zpN _ < zs.length - zpN _
        simp only [zpN]
        omega
    · have hd : decide ((i : Int) < (zs.length : Int)) = false := decide_eq_false (by omega)
      have HO2 := HO.out
      rw [List.take_of_length_le (by simp; omega)] at HO2
      have HO3 := Aside0.mk HO2
      clear HO2 HO
      go_wp2
      go_ret
      exact ⟨_, rfl, HO3.out, HB.out⟩

end Go.Proofs.YtajglnedoeboaaaDoor.Z
