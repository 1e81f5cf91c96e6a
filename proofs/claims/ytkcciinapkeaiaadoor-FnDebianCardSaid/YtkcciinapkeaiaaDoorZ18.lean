-- Written by a program of this session (myprint.py).
import Derived.Test.YtkcciinapkeaiaaDoorZ0
import Derived.Test.YtkcciinapkeaiaaDoorZ6
import Derived.Test.YtkcciinapkeaiaaDoorZ11
import Derived.Test.YtkcciinapkeaiaaDoorShelf
import Derived.Lib.LastIndexByte
import Derived.Lib.OthersKept
import Derived.Laws.RangeString
import Derived.Laws.RangeAny
import Derived.Test.YtkcciinapkeaiaaDoorBy
import Derived.Test.YtkcciinapkeaiaaDoorEv
import Derived.Laws.MakeOwn
import Derived.Deep.CutBlock
import Derived.Deep.DeepCutAuto
import Derived.BigQuiet
import Derived.Deep.QuietTactic
import Derived.Deep.RegionHeld3
import Derived.Test.YtkcciinapkeaiaaDoorGe
namespace Go.Proofs.YtkcciinapkeaiaaDoor.Z
open Go.Proofs.YtkcciinapkeaiaaDoor.Gw
open Go.RowKit Go.Proofs.YtkcciinapkeaiaaDoorW.PrintWords Go.Proofs.YtkcciinapkeaiaaDoorW.PrintLast Go.Proofs.YtkcciinapkeaiaaDoorW.PrintMore
attribute [local go_sem high] Go.Proofs.YtkcciinapkeaiaaDoor.Ge.gtr_str
attribute [local go_sem] max2_int min2_int max_two min_two max_three min_three max_four min_four   -- for this text's walks alone
set_option linter.unusedVariables false
set_option linter.unusedSimpArgs false

-- PLUGGED impl_DebianCompareText: function 19 (a text of this session)
attribute [local go_sem] Ss.EV
set_option maxRecDepth 100000 in
set_option maxHeartbeats 8000000 in
theorem db_CompareStr (x : DbV) (o : Nat) (l : List UInt8) (w : World) (hx : Asc x.2.1 ∧ Asc x.2.2) (hl : Asc l) (hz : Big.At w x.1 (.pointer (some ⟨o, 0, none⟩))) (hG : GW w) :
    Calls Tryd.prog 34 #[.agg #[.pointer (some ⟨o, 0, none⟩), .string (By.ofL x.2.1), .string (By.ofL x.2.2)], .string (By.ofL l)] w fun e w' => (∃ ae, e = .returned (.tuple #[.int .i64 0, Ss.EV ae]) ∧ dbp l = none ∧ Below w.heap.size w w') ∨ (∃ y : DbV, dbp l = some y ∧ e = .returned (.tuple #[.int .i64 (dvC x y), .nilIface]) ∧ Below w.heap.size w w') := by
  obtain ⟨a, haa⟩ : ∃ s, s = By.ofL x.2.1 := ⟨_, rfl⟩
  obtain ⟨b, hbb⟩ : ∃ s, s = By.ofL x.2.2 := ⟨_, rfl⟩
  have HAB : Aside0 (a = By.ofL x.2.1 ∧ b = By.ofL x.2.2) := ⟨haa, hbb⟩
  rw [← haa, ← hbb]
  obtain ⟨WA, hWA⟩ : ∃ WA, w.alloc (.cells #[.pointer (some ⟨o, 0, none⟩), .string a, .string b] 50) = WA := ⟨_, rfl⟩
  have hBA : Below w.heap.size w WA := by rw [← hWA]; exact (Below.refl _ _).alloc (Nat.le_refl _) _
  have HBLK : Aside0 (WA.heap[w.heap.size]? = some (.cells #[.pointer (some ⟨o, 0, none⟩), .string a, .string b] 50 (0, 0))) := ⟨by rw [← hWA]; exact blk_new w _⟩
  have HP := Aside0.mk (db_parse l WA hl (Gw.GW.below hG hBA))
  generalize By.ofL l = s at HP ⊢
  have HBA := Aside0.mk hBA
  have HG := Aside0.mk hG
  have HX := Aside0.mk hx
  have HL := Aside0.mk hl
  have HAT := Aside0.mk (Big.At.below hz hBA)
  have hu := Tryd.underlying50
  clear hx hl hz hG hBA haa hbb
  go_enter Tryd.func34, Tryd.ntmps34
  go_wp2_with (go_at_call 29; (with_reducible refine (HP.out).mono ?_))
  rintro e W1 ⟨hb1, h1⟩
  have HB1 : Aside0 (Below w.heap.size w W1) := ⟨HBA.out.trans (hb1.mono HBA.out.size)⟩
  have HB1' := Aside0.mk hb1
  clear HP hb1
  rcases h1 with ⟨hn, ae, rfl⟩ | ⟨z', u', v', o', hy, rfl, hat⟩
  · have HN := Aside0.mk hn
    have HBE : Aside0 (Below w.heap.size w (W1.alloc (.cells #[.pointer none, .string ⟨#[]⟩, .string ⟨#[]⟩] 50))) := ⟨HB1.out.alloc HB1.out.size _⟩
    clear hn
    go_wp2
    go_ret2
    exact .inl ⟨ae, rfl, HN.out, HBE.out⟩
  · have HUV' := Aside0.mk (dbp_asc HL.out hy)
    have HY := Aside0.mk hy
    obtain ⟨a', haa⟩ : ∃ s, s = By.ofL u' := ⟨_, rfl⟩
    obtain ⟨b', hbb⟩ : ∃ s, s = By.ofL v' := ⟨_, rfl⟩
    have HAB' : Aside0 (a' = By.ofL u' ∧ b' = By.ofL v') := ⟨haa, hbb⟩
    rw [← haa, ← hbb]
    obtain ⟨W4, hW4⟩ : ∃ W4, W1.alloc (.cells #[.pointer (some ⟨o', 0, none⟩), .string a', .string b'] 50) = W4 := ⟨_, rfl⟩
    have hB4 : Below W1.heap.size W1 W4 := by rw [← hW4]; exact (Below.refl _ _).alloc (Nat.le_refl _) _
    have hblk' : W4.heap[W1.heap.size]? = some (.cells #[.pointer (some ⟨o', 0, none⟩), .string a', .string b'] 50 (0, 0)) := by rw [← hW4]; exact blk_new W1 _
    have hblk := blk_keep' hB4 (blk_keep' HB1'.out HBLK.out)
    have HB4 : Aside0 (Below w.heap.size w W4) := ⟨HB1.out.trans (hB4.mono HB1.out.size)⟩
    have k0 : W4.cell? ⟨w.heap.size, 0, none⟩ = some (.pointer (some ⟨o, 0, none⟩)) := (blk_cell hblk 0).trans rfl
    have k1 : W4.cell? ⟨w.heap.size, 1, none⟩ = some (.string a) := (blk_cell hblk 1).trans rfl
    have k2 : W4.cell? ⟨w.heap.size, 2, none⟩ = some (.string b) := (blk_cell hblk 2).trans rfl
    have k3 : W4.cell? ⟨W1.heap.size, 0, none⟩ = some (.pointer (some ⟨o', 0, none⟩)) := (blk_cell hblk' 0).trans rfl
    have k4 : W4.cell? ⟨W1.heap.size, 1, none⟩ = some (.string a') := (blk_cell hblk' 1).trans rfl
    have k5 : W4.cell? ⟨W1.heap.size, 2, none⟩ = some (.string b') := (blk_cell hblk' 2).trans rfl
    have HCm : Aside0 (∀ W, Below W4.heap.size W4 W → Calls Tryd.prog 46 #[.agg #[.pointer (some ⟨o, 0, none⟩), .string a, .string b], .agg #[.pointer (some ⟨o', 0, none⟩), .string a', .string b']] W fun e w' => e = .returned (.tuple #[.int .i64 (dvC x (z', u', v')), .nilIface]) ∧ Below w.heap.size w w') := ⟨fun W hB => by
      have hBw := HB4.out.trans (hB.mono HB4.out.size)
      rw [HAB.out.1, HAB.out.2, HAB'.out.1, HAB'.out.2]
      refine (db_compare x (z', u', v') o o' W HX.out HUV'.out (Big.At.below (Big.At.below (Big.At.below HAT.out HB1'.out) hB4) hB) (Big.At.below (Big.At.below hat hB4) hB) (Gw.GW.below HG.out hBw)).mono ?_
      rintro e w' ⟨rfl, h⟩
      exact ⟨rfl, hBw.trans (h.mono hBw.size)⟩⟩
    obtain ⟨R, hR⟩ : ∃ R, R = dvC x (z', u', v') := ⟨_, rfl⟩
    rw [← hR] at HCm
    have HR := Aside0.mk hR
    clear hy hat hB4 hblk hblk' haa hbb hR
    go_wp2_with (go_at_call 46; (with_reducible refine (HCm.out _ ?hbq).mono ?_))
    case hbq => first | exact Below.refl _ _ | exact pw_below_drewN (Below.refl _ _) _
    rintro e W5 ⟨rfl, hb5⟩
    have HB5 := Aside0.mk hb5
    clear hb5
    go_wp2
    go_ret2
    exact .inr ⟨(z', u', v'), HY.out, by first | (rw [HR.out]; done) | (rw [HR.out]; rfl), HB5.out⟩
attribute [local go_sem] Ss.EV
set_option maxRecDepth 100000 in
set_option maxHeartbeats 8000000 in
theorem impl_DebianCompareText.calls (a0 a1 : ByteArray) (r1 : Int) (r2 : Bool) (w : World) (hG : GW w) (h : impl_DebianCompareText.f a0 a1 = some (r1, r2)) :
    Calls Tryd.prog 19 #[.string a0, .string a1] w fun e w' => e = .returned (.tuple #[.int .i64 r1, .bool r2]) ∧ Below w.heap.size w w' := by
  unfold impl_DebianCompareText.f at h
  unfold impl_DebianCompare.f at h
  split at h
  · rename_i hf
    have ha0 : Asc (By.bl a0) := ⟨by rw [By.bl_length]; exact hf.1.1, ascB_all hf.1.2⟩
    have ha1 : Asc (By.bl a1) := ⟨by rw [By.bl_length]; exact hf.2.1, ascB_all hf.2.2⟩
    have hp0 := db_parse (By.bl a0) w ha0 hG
    rw [By.ofL_bl] at hp0
    have HP := Aside0.mk hp0
    have HA0 := Aside0.mk ha0
    have HA1 := Aside0.mk ha1
    have HG := Aside0.mk hG
    have HH := Aside0.mk h
    have hu := Tryd.underlying50
    clear h hf hG hp0 ha0 ha1
    go_enter Tryd.func19, Tryd.ntmps19
    go_wp2_with (go_at_call 29; (with_reducible refine (HP.out).mono ?_))
    rintro e W1 ⟨hb1, h1⟩
    have HB1 := Aside0.mk hb1
    clear HP hb1
    rcases h1 with ⟨hn, ae, rfl⟩ | ⟨z, u, v, o, hx, rfl, hat⟩
    · have HV : Aside0 (r1 = 0 ∧ r2 = false) := ⟨by
        have h := HH.out
        rw [hn] at h
        simp only [Option.some.injEq, Prod.mk.injEq] at h
        exact ⟨h.1.symm, h.2.symm⟩⟩
      have HBE : Aside0 (Below w.heap.size w (W1.alloc (.cells #[.pointer none, .string ⟨#[]⟩, .string ⟨#[]⟩] 50))) := ⟨HB1.out.alloc HB1.out.size _⟩
      clear hn HH
      go_wp2
      go_ret2
      exact ⟨by rw [HV.out.1, HV.out.2]; rfl, HBE.out⟩
    · have HUV := Aside0.mk (dbp_asc HA0.out hx)
      obtain ⟨a, haa⟩ : ∃ s, s = By.ofL u := ⟨_, rfl⟩
      obtain ⟨b, hbb⟩ : ∃ s, s = By.ofL v := ⟨_, rfl⟩
      have HAB : Aside0 (a = By.ofL u ∧ b = By.ofL v) := ⟨haa, hbb⟩
      rw [← haa, ← hbb]
      obtain ⟨W2, hW2⟩ : ∃ W2, W1.alloc (.cells #[.pointer (some ⟨o, 0, none⟩), .string a, .string b] 50) = W2 := ⟨_, rfl⟩
      have hB2 : Below W1.heap.size W1 W2 := by rw [← hW2]; exact (Below.refl _ _).alloc (Nat.le_refl _) _
      have hblk : W2.heap[W1.heap.size]? = some (.cells #[.pointer (some ⟨o, 0, none⟩), .string a, .string b] 50 (0, 0)) := by rw [← hW2]; exact blk_new W1 _
      have HBLK := Aside0.mk hblk
      have HB2 : Aside0 (Below w.heap.size w W2) := ⟨HB1.out.trans (hB2.mono HB1.out.size)⟩
      have HX : Aside0 (dbp (By.bl a0) = some (z, u, v) ∧ Big.At W2 z (.pointer (some ⟨o, 0, none⟩))) := ⟨hx, Big.At.below hat hB2⟩
      have k0 : W2.cell? ⟨W1.heap.size, 0, none⟩ = some (.pointer (some ⟨o, 0, none⟩)) := (blk_cell hblk 0).trans rfl
      have k1 : W2.cell? ⟨W1.heap.size, 1, none⟩ = some (.string a) := (blk_cell hblk 1).trans rfl
      have k2 : W2.cell? ⟨W1.heap.size, 2, none⟩ = some (.string b) := (blk_cell hblk 2).trans rfl
      clear hx hat hB2 haa hbb hblk
      have HQ : Aside0 (∀ W, Below W2.heap.size W2 W → Calls Tryd.prog 34 #[.agg #[.pointer (some ⟨o, 0, none⟩), .string a, .string b], .string a1] W fun e w' => (∃ ae, e = .returned (.tuple #[.int .i64 0, Ss.EV ae]) ∧ dbp (By.bl a1) = none ∧ Below w.heap.size w w') ∨ (∃ y : DbV, dbp (By.bl a1) = some y ∧ e = .returned (.tuple #[.int .i64 (dvC (z, u, v) y), .nilIface]) ∧ Below w.heap.size w w')) := ⟨fun W hB => by
        have hBw := HB2.out.trans (hB.mono HB2.out.size)
        rw [HAB.out.1, HAB.out.2]
        have h := db_CompareStr (z, u, v) o (By.bl a1) W HUV.out HA1.out (Big.At.below HX.out.2 hB) (Gw.GW.below HG.out hBw)
        rw [By.ofL_bl] at h
        refine h.mono ?_
        rintro e w' (⟨ae, h1, h2, h3⟩ | ⟨y, h1, h2, h3⟩)
        · exact .inl ⟨ae, h1, h2, hBw.trans (h3.mono hBw.size)⟩
        · exact .inr ⟨y, h1, h2, hBw.trans (h3.mono hBw.size)⟩⟩
      go_wp2_with (go_at_call 34; (with_reducible refine (HQ.out _ ?hbq).mono ?_))
      case hbq => first | exact Below.refl _ _ | exact pw_below_drewN (Below.refl _ _) _
      rintro e W3 (⟨ae, rfl, hn, hb3⟩ | ⟨y, hy, rfl, hb3⟩)
      · have HV : Aside0 (r1 = 0 ∧ r2 = false) := ⟨by
          have h := HH.out
          rw [hn, HX.out.1] at h
          simp only [Option.some.injEq, Prod.mk.injEq] at h
          exact ⟨h.1.symm, h.2.symm⟩⟩
        have HB3 := Aside0.mk hb3
        clear hn hb3 HH
        go_wp2
        go_quiet (fail)
        go_wp2
        go_ret2
        exact ⟨by rw [HV.out.1, HV.out.2]; rfl, by first | exact HB3.out | exact pw_below_drewN HB3.out _⟩
      · have HV : Aside0 (r1 = dvC (z, u, v) y ∧ r2 = true) := ⟨by
          have h := HH.out
          rw [hy, HX.out.1] at h
          simp only [Option.some.injEq, Prod.mk.injEq] at h
          exact ⟨h.1.symm, h.2.symm⟩⟩
        have HB3 := Aside0.mk hb3
        clear hy hb3 HH
        generalize dvC (z, u, v) y = R at HV ⊢
        go_wp2
        go_quiet (fail)
        go_wp2
        go_ret2
        exact ⟨by rw [HV.out.1, HV.out.2]; rfl, by first | exact HB3.out | exact pw_below_drewN HB3.out _⟩
  · cases h

end Go.Proofs.YtkcciinapkeaiaaDoor.Z
