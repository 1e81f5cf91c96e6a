/- Numbers read from texts: the digits. -/
import Derived.Test.YtnbokeodgendkaaDoorProg
import Derived.Below
import Derived.Deep.Draws
import Derived.Deep.AppendLies
import Derived.Maps.AppendAt
import Derived.OwnWalk
import Derived.Laws.BytesArg
import Derived.Laws.MakeOwn
import Derived.Laws.OwnMore
import Derived.Deep.OwnRows
import Derived.Tactics
import Derived.Lib.ConvBytes
import Derived.Laws.Slices
import Derived.WalkKit
import Derived.KernelRfl
import Derived.RowKit3
import Derived.Deep.LoopGhost
import Derived.Deep.QuietTactic
import Derived.BigQuiet
import Derived.WideLaws
import Derived.Deep.DeepCutAuto
import Derived.Deep.CutBlock
import Derived.Deep.RegionHeld3
import Derived.Laws.Rows
import Derived.Lib.AppendStr
import Derived.ArgAppend
import Derived.Laws.IdiomCopy
import Derived.OrdersHeld
import Derived.Laws.BitsLemmas
import Derived.RowKit
import Derived.Test.YtnbokeodgendkaaDoorWWords
import Derived.Test.YtnbokeodgendkaaDoorWLast
import Derived.Test.YtnbokeodgendkaaDoorWMore
import Derived.Test.YtnbokeodgendkaaDoorWN
import Derived.Test.YtnbokeodgendkaaDoorWKept
import Derived.Test.YtnbokeodgendkaaDoorWShare
import Derived.Test.YtnbokeodgendkaaDoorWInvWords
import Derived.Test.YtnbokeodgendkaaDoorGe
import Derived.Test.YtnbokeodgendkaaDoorSsA
namespace Go.Proofs.YtnbokeodgendkaaDoor.Ss
open Go Go.RowKit Go.Proofs.YtnbokeodgendkaaDoorW.PrintWords Go.Proofs.YtnbokeodgendkaaDoorW.PrintLast Go.Proofs.YtnbokeodgendkaaDoorW.PrintMore
attribute [local go_sem high] Go.Proofs.YtnbokeodgendkaaDoor.Ge.gtr_str
attribute [local go_sem] max2_int min2_int max_two min_two max_three min_three max_four min_four
set_option linter.unusedVariables false
set_option linter.unusedSimpArgs false

open Go.Proofs.YtnbokeodgendkaaDoor.Gw
attribute [local go_sem] EV
/-! the loop over the digits -/
theorem dg_get {x : UInt8} (h : By.dg x = true) : 48 ≤ x.toNat ∧ x.toNat ≤ 57 := of_decide_eq_true h
theorem ss_dig_u (d c x : Nat) (hd : d < tp c) (hc : c ≤ 18) (hx0 : 48 ≤ x) (hx1 : x ≤ 57) : IntKind.u64.wrap (IntKind.u64.wrap ((d : Int) * 10) + ((x : Int) - 48)) = ((d * 10 + (x - 48) : Nat) : Int) ∧ d * 10 + (x - 48) < tp (c + 1) ∧ d * 10 + (x - 48) < 18446744073709551616 := by
  have h1 := tp_succ c
  have h2 := tp_le (show c + 1 ≤ 19 by omega)
  rw [tp19] at h2
  refine ⟨?_, by omega, by omega⟩
  rw [IntKind.wrap_u64, IntKind.wrap_u64]
  omega
/-- What a byte tells the loop. -/
theorem ss_dec (x : UInt8) (h : By.dg x = true) : ((x.toNat : Int) == 46) = false ∧ ((x.toNat : Int) == 95) = false ∧ (48 : Int) ≤ (x.toNat : Int) ∧ (x.toNat : Int) ≤ 57 := by
  have := dg_get h
  exact ⟨beq_eq_false_iff_ne.2 (by omega), beq_eq_false_iff_ne.2 (by omega), by omega, by omega⟩
def ScNum (s : ByteArray) (i0 j N d c : Nat) : Prop := c ≤ j ∧ d < tp c ∧ i0 + j ≤ s.size ∧ (dcs s i0 j).all By.dg = true ∧ NV (dcs s i0 j) = N * tp c + d
theorem ScNum.step {s : ByteArray} {i0 j N d c : Nat} (h : ScNum s i0 j N d c) (hlt : i0 + j < s.size) (hx : By.dg s[i0 + j] = true) : ScNum s i0 (j + 1) N (d * 10 + (s[i0 + j].toNat - 48)) (c + 1) := by
  obtain ⟨h0, h1, h2, h3, h4⟩ := h
  have hb := dg_get hx
  rw [ScNum, dcs_step s i0 j hlt, List.all_append, NV_snoc, h3, h4, tp_succ]
  refine ⟨by omega, by omega, by omega, by simpa using hx, ?_⟩
  rw [← Nat.mul_assoc N]
  omega
theorem ScNum.full {s : ByteArray} {i0 j N d c : Nat} (h : ScNum s i0 j N d c) : ScNum s i0 j (N * tp c + d) 0 0 := by
  obtain ⟨h0, h1, h2, h3, h4⟩ := h
  exact ⟨Nat.zero_le _, by simp [tp], h2, h3, by rw [h4]; simp [tp]⟩
/-- The loop's state ahead of a round. -/
def ScL (g base i0 : Nat) (s : ByteArray) (a : Addr) (w : World) (v0 v3 v10 v11 v13 v14 v15 v20 v21 v22 : Value) (wr : World) : Prop := ∃ (j N d c : Nat) (q : Int), v3 = .bool false ∧ v14 = .bool false ∧ v22 = .int .i64 (-1) ∧
  v10 = .int .i64 (j : Int) ∧ (v13 = .int .i32 46 ∨ v13 = .int .i32 48) ∧ v20 = .int .u64 (d : Int) ∧ v21 = .int .i64 (c : Int) ∧ c ≤ 18 ∧ Aside0 (ScNum s i0 j N d c) ∧
  Aside0 (NZ base j wr v0 N) ∧ Aside0 (ErrAt gEOF a wr) ∧ Aside0 (FrS g base w wr) ∧ Nx s (i0 + j) a v11 v15 q ∧ Aside0 (Rdr g s q (-1) wr) ∧ Aside0 (base ≤ wr.heap.size)
/-- The state behind the loop. -/
def ScE (g base i0 : Nat) (s : ByteArray) (a : Addr) (w : World) (v0 v10 v11 v13 v14 v20 v21 v22 : Value) (wr : World) : Prop := ∃ (j N d c : Nat), v14 = .bool false ∧ v22 = .int .i64 (-1) ∧
  v10 = .int .i64 (j : Int) ∧ (v13 = .int .i32 46 ∨ v13 = .int .i32 48) ∧ v20 = .int .u64 (d : Int) ∧ v21 = .int .i64 (c : Int) ∧ c ≤ 18 ∧ Aside0 (ScNum s i0 j N d c) ∧
  Aside0 (NZ base j wr v0 N) ∧ Aside0 (ErrAt gEOF a wr) ∧ Aside0 (FrS g base w wr) ∧ ((∃ h : i0 + j < s.size, By.dg s[i0 + j] = false ∧ v11 = .nilIface) ∨ (i0 + j = s.size ∧ v11 = EV a)) ∧ Aside0 (Rdr g s ((i0 + j : Nat) : Int) (-1) wr) ∧ Aside0 (base ≤ wr.heap.size)
/-- A round that reads one more digit: what holds behind it. -/
theorem ScL.mk {g base i0 : Nat} {s : ByteArray} {a : Addr} {w : World} {v0 v11 v13 v15 : Value} {wr : World} (j N d c : Nat) (q : Int) (h13 : v13 = .int .i32 46 ∨ v13 = .int .i32 48) (hc : c ≤ 18) (hN : ScNum s i0 j N d c) (hZ : NZ base j wr v0 N) (hE : ErrAt gEOF a wr) (hF : FrS g base w wr) (hx : Nx s (i0 + j) a v11 v15 q) (hR : Rdr g s q (-1) wr) (hB : base ≤ wr.heap.size) :
    ScL g base i0 s a w v0 (.bool false) (.int .i64 (j : Int)) v11 v13 (.bool false) v15 (.int .u64 (d : Int)) (.int .i64 (c : Int)) (.int .i64 (-1)) wr :=
  ⟨j, N, d, c, q, rfl, rfl, rfl, rfl, h13, rfl, rfl, hc, ⟨hN⟩, ⟨hZ⟩, ⟨hE⟩, ⟨hF⟩, hx, ⟨hR⟩, ⟨hB⟩⟩
def scN (n : Nat) : Value → Value → Nat
  | .int _ k, .nilIface => n - k.toNat + 1
  | _, _ => 0
theorem scN_lt {n i j : Nat} {s : ByteArray} {a : Addr} {v11 v15 : Value} {q : Int} (h : Nx s i a v11 v15 q) (hj : j < n) : scN n (.int .i64 ((j : Int) + 1)) v11 < scN n (.int .i64 (j : Int)) .nilIface := by
  rcases h with ⟨_, rfl, _⟩ | ⟨_, rfl, _⟩
  · show n - ((j : Int) + 1).toNat + 1 < n - (j : Int).toNat + 1
    omega
  · show 0 < n - (j : Int).toNat + 1
    omega
theorem ScE.stop {g base i0 : Nat} {s : ByteArray} {a : Addr} {w : World} {v0 v13 : Value} {wr W2 : World} (j N d c : Nat) (h13 : v13 = .int .i32 46 ∨ v13 = .int .i32 48) (hc : c ≤ 18) (hN : ScNum s i0 j N d c) (hZ : NZ base j wr v0 N) (hE : ErrAt gEOF a wr) (hF : FrS g base w wr) (hx : ∃ h : i0 + j < s.size, By.dg s[i0 + j] = false) (hR : Rdr g s ((i0 + j : Nat) : Int) (-1) W2) (hS : Side g wr W2) (hB : base ≤ wr.heap.size) (hne : gEOF ≠ g) (hg : g < base) :
    ScE g base i0 s a w v0 (.int .i64 (j : Int)) .nilIface v13 (.bool false) (.int .u64 (d : Int)) (.int .i64 (c : Int)) (.int .i64 (-1)) W2 := by
  obtain ⟨h1, h2⟩ := hx
  exact ⟨j, N, d, c, rfl, rfl, rfl, h13, rfl, rfl, hc, ⟨hN⟩, ⟨hZ.side hS hg⟩, ⟨hE.side hS hne⟩, ⟨hF.side hS⟩, .inl ⟨h1, h2, rfl⟩, ⟨hR⟩, ⟨by rw [hS.2.1]; exact hB⟩⟩
theorem _root_.Go.Proofs.YtnbokeodgendkaaDoor.Gw.ErrAt.fr {ge g base : Nat} {a : Addr} {w w' : World} (h : ErrAt ge a w) (hs : FrS g base w w') (hne : ge ≠ g) (hb : ge < base) : ErrAt ge a w' := (World.cell?_of_block (w := w) (hs.1 ge hb hne)).trans h
theorem NZ.zero {base : Nat} {w : World} {v : Value} {N : Nat} (h : NZ base 0 w v N) : v = .slice none 0 0 ∧ N = 0 := by
  obtain ⟨ws, h1, h2, h3, h4⟩ := h
  have h5 : ws = [] := List.eq_nil_of_length_eq_zero (by omega)
  subst h5
  have h6 : (0 : Int) = (N : Int) := h2
  rcases h4 with ⟨h, _⟩ | ⟨h, _⟩
  · exact ⟨h, by omega⟩
  · omega
/-- What scan answers. -/
def ScP (g base i0 : Nat) (s : ByteArray) (a2 : Addr) (w : World) (e : Ending) (w' : World) : Prop := ∃ j : Nat, i0 + j ≤ s.size ∧ (dcs s i0 j).all By.dg = true ∧ ((∃ h : i0 + j < s.size, By.dg s[i0 + j] = false) ∨ i0 + j = s.size) ∧ Rdr g s ((i0 + j : Nat) : Int) (-1) w' ∧ FrS g base w w' ∧
  ((j = 0 ∧ e = .returned (.tuple #[.slice none 0 0, .int .i64 10, .int .i64 0, EV a2])) ∨ (1 ≤ j ∧ ∃ v, e = .returned (.tuple #[v, .int .i64 10, .int .i64 (j : Int), .nilIface]) ∧ NZ base (j + 1) w' v (NV (dcs s i0 j))))
theorem ss_cmpE : (Tryd.prog.info? 166).map (fun i => i.comparable) = some true := by kernel_rfl
theorem ss_infE : (Tryd.prog.info? 184).isSome = true := by kernel_rfl
theorem ss_eqE (a : Addr) (W : World) : (binOp .eql 46 (.iface 166 (.pointer (some a))) (.iface 166 (.pointer (some a)))).run Tryd.prog W = .ok (.bool true) W := by
  obtain ⟨i, h1, h2⟩ := Option.map_eq_some_iff.1 ss_cmpE
  obtain ⟨j, h3⟩ := Option.isSome_iff_exists.1 ss_infE
  exact run_eql_iface_ptr_same W a Tryd.underlying46 Tryd.underlying166 h1 h2 h3

set_option maxRecDepth 100000 in
set_option maxHeartbeats 4000000 in
theorem ss_scan (g base : Nat) (s : ByteArray) (p : Int) (i0 : Nat) (a : Addr) (w : World) (hi : i0 ≤ s.size) (hs : s.size ≤ 1000000) (hr : Rdr g s (i0 : Int) p w) (he : ErrAt gEOF a w) (hne : gEOF ≠ g) (hgb : g < base) (hEb : gEOF < base) (hbw : base ≤ w.heap.size) (a2 : Addr) (he2 : ErrAt gND a2 w) (hne2 : gND ≠ g) (hNb : gND < base) :
    Calls Tryd.prog 94 #[.slice none 0 0, RI g, .int .i64 10, .bool false] w (ScP g base i0 s a2 w) := by
  have hC := Aside0.mk (ss_next g i0 s p a w hi hs hr he hne)
  have hM := Aside0.mk (fun W => ss_maxPow W)
  have HE := Aside0.mk he
  have HH : Aside0 (i0 ≤ s.size ∧ s.size ≤ 1000000 ∧ gEOF ≠ g ∧ g < base ∧ gEOF < base ∧ base ≤ w.heap.size) := ⟨hi, hs, hne, hgb, hEb, hbw⟩
  have HND : Aside0 (ErrAt gND a2 w ∧ gND ≠ g ∧ gND < base) := ⟨he2, hne2, hNb⟩
  clear hr he hne hs hi hgb hEb hbw he2 hne2 hNb
  go_enter Tryd.func94, Tryd.ntmps94
  go_wp2_with (show Calls Tryd.prog 141 #[.pointer (some ⟨g, 0, none⟩)] _ _; (with_reducible refine (hC.out).mono ?_); rintro e W1 ⟨v11, v15, q, rfl, h0, h1, h2⟩; have H0 := Aside0.mk h0; have H1 := Aside0.mk h1; have H2 := Aside0.mk h2; clear h0 h1 h2)
  go_upto_block 2 with (go_at_call 97; (with_reducible refine (hM.out _).mono ?_); rintro e w' ⟨bn, rfl, hbn, rfl⟩; have HBN := Aside0.mk hbn; clear hbn)
  go_cut [0, 10, 11, 13, 14, 20, 21, 22] (fun v0 v10 v11 v13 v14 v20 v21 v22 wc => Aside0 (ScE g base i0 s a w v0 v10 v11 v13 v14 v20 v21 v22 wc))
  case first =>
    go_wp2_with fail
    go_loopw [0, 3, 10, 11, 13, 14, 15, 20, 21, 22] (fun v0 v3 v10 v11 v13 v14 v15 v20 v21 v22 wi => ScL g base i0 s a w v0 v3 v10 v11 v13 v14 v15 v20 v21 v22 wi) (fun v0 v3 v10 v11 v13 v14 v15 v20 v21 v22 wi => scN s.size v10 v11)
    case atStart => exact ScL.mk 0 0 0 0 q (.inl rfl) (by omega) ⟨Nat.le_refl _, by simp [tp], HH.out.1, rfl, rfl⟩ (NZ.nil _ _ _) (HE.out.side H2.out HH.out.2.2.1) ((FrS.refl g base w).side H2.out) H0.out H1.out (by rw [H2.out.2.1]; exact HH.out.2.2.2.2.2)
    case round =>
      obtain ⟨j, N, d, c, q2, rfl, rfl, rfl, rfl, h13, rfl, rfl, hc, HN, HZ, HEr, HF, hnx, HR, HB⟩ := hrel
      clear H0 H1 H2
      have H13 := Aside0.mk h13
      clear h13
      rcases hnx with ⟨hlt, rfl, rfl, hq⟩ | ⟨hend, rfl, rfl, hq⟩
      · have HQ := Aside0.mk hq
        have HR2 : Aside0 (Rdr g s ((i0 + j + 1 : Nat) : Int) (-1) wr) := ⟨by have := HR.out; rw [hq] at this; exact this⟩
        clear hq HQ HR
        by_cases hdg : By.dg s[i0 + j] = true
        · obtain ⟨b46, b95, hx0, hx1⟩ := ss_dec _ hdg
          have HS := Aside0.mk (HN.out.step hlt hdg)
          obtain ⟨hu, hu2, hu3⟩ := ss_dig_u d c s[i0 + j].toNat HN.out.2.1 hc (by omega) (by omega)
          have HU := Aside0.mk (And.intro hu2 hu3)
          have hj : wrap64 ((j : Int) + 1) = (j : Int) + 1 := Evs.wrap_in (by omega) (by have := HH.out.2.1; omega)
          have HC : Aside0 (∀ W, Rdr g s ((i0 + j + 1 : Nat) : Int) (-1) W → ErrAt gEOF a W → _) := ⟨fun W h1 h2 => ss_next g (i0 + j + 1) s (-1) a W (by omega) HH.out.2.1 h1 h2 HH.out.2.2.1⟩
          have HJ : Aside0 (j < s.size) := ⟨by omega⟩
          clear hdg hu2 hu3 HN hC
          generalize s[i0 + j].toNat = y at b46 b95 hx0 hx1 hu HU HS ⊢
          clear hlt
          obtain ⟨dn, hdn⟩ : ∃ dn, dn = d * 10 + (y - 48) := ⟨_, rfl⟩
          rw [← hdn] at hu HU HS
          have HDN := Aside0.mk hdn
          clear hdn
          by_cases h18 : c = 18
          · subst h18
            have he : ((18 : Int) + 1 == 19) = true := rfl
            have hbn : ((bn : Int) == 0) = false := beq_eq_false_iff_ne.2 (by rw [HBN.out, tp19]; decide)
            have hbn2 : (bn == 0) = false := beq_eq_false_iff_ne.2 (by rw [HBN.out, tp19]; decide)
            have hA := Aside0.mk (ss_mulAddWW base j N bn dn u0 (by have := HH.out.2.1; have := HJ.out; omega) (by rw [HBN.out]; exact tp_pos 19) (by rw [HBN.out, tp19]; decide) HU.out.2 wr HB.out HZ.out)
            have hFin : Aside0 (ScNum s i0 (j + 1) (N * bn + dn) 0 0) := ⟨by have := HS.out.full; rw [HBN.out]; exact this⟩
            go_wp2_with (go_at_call 98; (with_reducible refine (hA.out).mono ?_))
            rintro e W2 ⟨v', rfl, hz, hbl⟩
            have HBL := Aside0.mk hbl
            have HZ2 := Aside0.mk hz
            have HR3 := Aside0.mk (HR2.out.below hbl HH.out.2.2.2.1)
            have HE3 : Aside0 (ErrAt gEOF a W2) := ⟨(hbl.cell (p := ⟨gEOF, 0, none⟩) HH.out.2.2.2.2.1).trans HEr.out⟩
            have hC2 := Aside0.mk (HC.out W2 HR3.out HE3.out)
            clear hz hbl HC
            go_wp2_with (show Calls Tryd.prog 141 #[.pointer (some ⟨g, 0, none⟩)] _ _; (with_reducible refine (hC2.out).mono ?_); rintro e W3 ⟨v11, v15, q, rfl, h0, h1, h2⟩; have H0 := Aside0.mk h0; have H1 := Aside0.mk h1; have H2 := Aside0.mk h2; clear h0 h1 h2)
            go_roundw
            case rel => exact ScL.mk (j + 1) (N * bn + dn) 0 0 q (.inr rfl) (by omega) hFin.out (HZ2.out.side H2.out HH.out.2.2.2.1) (HE3.out.side H2.out HH.out.2.2.1) ((HF.out.below HBL.out HH.out.2.2.2.1).side H2.out) H0.out H1.out (by rw [H2.out.2.1]; exact Nat.le_trans HB.out HBL.out.size)
            case measure => exact scN_lt H0.out HJ.out
          · have he : ((c : Int) + 1 == 19) = false := beq_eq_false_iff_ne.2 (by omega)
            have HC18 : Aside0 (c + 1 ≤ 18) := ⟨by omega⟩
            have hC2 := Aside0.mk (HC.out wr HR2.out HEr.out)
            clear h18 HC
            go_wp2_with (show Calls Tryd.prog 141 #[.pointer (some ⟨g, 0, none⟩)] _ _; (with_reducible refine (hC2.out).mono ?_); rintro e W2 ⟨v11, v15, q, rfl, h0, h1, h2⟩; have H0 := Aside0.mk h0; have H1 := Aside0.mk h1; have H2 := Aside0.mk h2; clear h0 h1 h2)
            go_roundw
            case rel => exact ScL.mk (j + 1) N dn (c + 1) q (.inr rfl) HC18.out HS.out ((HZ.out.side H2.out HH.out.2.2.2.1).more (by omega)) (HEr.out.side H2.out HH.out.2.2.1) (HF.out.side H2.out) H0.out H1.out (by rw [H2.out.2.1]; exact HB.out)
            case measure => exact scN_lt H0.out HJ.out
        · have hC3 := Aside0.mk (ss_unread g ((i0 + j : Nat) : Int) s (-1) wr (by omega) (by have := HH.out.2.1; omega) HR2.out)
          have HDG : Aside0 (∃ h : i0 + j < s.size, By.dg s[i0 + j] = false) := ⟨hlt, by simpa using hdg⟩
          have hn : ¬ (48 ≤ s[i0 + j].toNat ∧ s[i0 + j].toNat ≤ 57) := fun h => hdg (decide_eq_true h)
          have hy : s[i0 + j].toNat < 256 := UInt8.toNat_lt _
          clear hdg hC
          generalize s[i0 + j].toNat = y at hn hy ⊢
          clear hlt
          have hsp : (97 ≤ y ∧ y ≤ 122) ∨ (65 ≤ y ∧ y ≤ 90) ∨ (y < 46 ∨ y = 47) ∨ (58 ≤ y ∧ y ≤ 64) ∨ (91 ≤ y ∧ y ≤ 94 ∨ y = 96) ∨ (123 ≤ y) ∨ y = 46 ∨ y = 95 := by omega
          clear hn
          rcases hsp with hc0 | hc0 | hc0 | hc0 | hc0 | hc0 | rfl | rfl
          · have b46 : ((y : Int) == 46) = false := beq_eq_false_iff_ne.2 (by omega)
            have b95 : ((y : Int) == 95) = false := beq_eq_false_iff_ne.2 (by omega)
            have d1 : decide ((48 : Int) ≤ (y : Int)) = true := decide_eq_true (by omega)
            have d2 : decide ((y : Int) ≤ 57) = false := decide_eq_false (by omega)
            have d3 : decide ((97 : Int) ≤ (y : Int)) = true := decide_eq_true (by omega)
            have d4 : decide ((y : Int) ≤ 122) = true := decide_eq_true (by omega)
            have d5 : decide ((65 : Int) ≤ (y : Int)) = true := decide_eq_true (by omega)
            have d6 : decide ((y : Int) ≤ 90) = false := decide_eq_false (by omega)
            have x0 : (97 : Int) ≤ (y : Int) := by omega
            have x1 : (y : Int) ≤ 122 := by omega
            clear hc0 hy
            go_wp2_with (show Calls Tryd.prog 142 #[.pointer (some ⟨g, 0, none⟩)] _ _; (with_reducible refine (hC3.out).mono ?_); rintro e W2 ⟨rfl, h1, h2⟩; have H1 := Aside0.mk h1; have H3 := Aside0.mk h2; clear h1 h2)
            go_meet
            exact ⟨ScE.stop j N d c H13.out hc HN.out HZ.out HEr.out HF.out HDG.out H1.out H3.out HB.out HH.out.2.2.1 HH.out.2.2.2.1⟩
          · have b46 : ((y : Int) == 46) = false := beq_eq_false_iff_ne.2 (by omega)
            have b95 : ((y : Int) == 95) = false := beq_eq_false_iff_ne.2 (by omega)
            have d1 : decide ((48 : Int) ≤ (y : Int)) = true := decide_eq_true (by omega)
            have d2 : decide ((y : Int) ≤ 57) = false := decide_eq_false (by omega)
            have d3 : decide ((97 : Int) ≤ (y : Int)) = false := decide_eq_false (by omega)
            have d4 : decide ((y : Int) ≤ 122) = true := decide_eq_true (by omega)
            have d5 : decide ((65 : Int) ≤ (y : Int)) = true := decide_eq_true (by omega)
            have d6 : decide ((y : Int) ≤ 90) = true := decide_eq_true (by omega)
            have x0 : (65 : Int) ≤ (y : Int) := by omega
            have x1 : (y : Int) ≤ 90 := by omega
            clear hc0 hy
            go_wp2_with (show Calls Tryd.prog 142 #[.pointer (some ⟨g, 0, none⟩)] _ _; (with_reducible refine (hC3.out).mono ?_); rintro e W2 ⟨rfl, h1, h2⟩; have H1 := Aside0.mk h1; have H3 := Aside0.mk h2; clear h1 h2)
            go_meet
            exact ⟨ScE.stop j N d c H13.out hc HN.out HZ.out HEr.out HF.out HDG.out H1.out H3.out HB.out HH.out.2.2.1 HH.out.2.2.2.1⟩
          · have b46 : ((y : Int) == 46) = false := beq_eq_false_iff_ne.2 (by omega)
            have b95 : ((y : Int) == 95) = false := beq_eq_false_iff_ne.2 (by omega)
            have d1 : decide ((48 : Int) ≤ (y : Int)) = false := decide_eq_false (by omega)
            have d2 : decide ((y : Int) ≤ 57) = true := decide_eq_true (by omega)
            have d3 : decide ((97 : Int) ≤ (y : Int)) = false := decide_eq_false (by omega)
            have d4 : decide ((y : Int) ≤ 122) = true := decide_eq_true (by omega)
            have d5 : decide ((65 : Int) ≤ (y : Int)) = false := decide_eq_false (by omega)
            have d6 : decide ((y : Int) ≤ 90) = true := decide_eq_true (by omega)
            clear hc0 hy
            go_wp2_with (show Calls Tryd.prog 142 #[.pointer (some ⟨g, 0, none⟩)] _ _; (with_reducible refine (hC3.out).mono ?_); rintro e W2 ⟨rfl, h1, h2⟩; have H1 := Aside0.mk h1; have H3 := Aside0.mk h2; clear h1 h2)
            go_meet
            exact ⟨ScE.stop j N d c H13.out hc HN.out HZ.out HEr.out HF.out HDG.out H1.out H3.out HB.out HH.out.2.2.1 HH.out.2.2.2.1⟩
          · have b46 : ((y : Int) == 46) = false := beq_eq_false_iff_ne.2 (by omega)
            have b95 : ((y : Int) == 95) = false := beq_eq_false_iff_ne.2 (by omega)
            have d1 : decide ((48 : Int) ≤ (y : Int)) = true := decide_eq_true (by omega)
            have d2 : decide ((y : Int) ≤ 57) = false := decide_eq_false (by omega)
            have d3 : decide ((97 : Int) ≤ (y : Int)) = false := decide_eq_false (by omega)
            have d4 : decide ((y : Int) ≤ 122) = true := decide_eq_true (by omega)
            have d5 : decide ((65 : Int) ≤ (y : Int)) = false := decide_eq_false (by omega)
            have d6 : decide ((y : Int) ≤ 90) = true := decide_eq_true (by omega)
            clear hc0 hy
            go_wp2_with (show Calls Tryd.prog 142 #[.pointer (some ⟨g, 0, none⟩)] _ _; (with_reducible refine (hC3.out).mono ?_); rintro e W2 ⟨rfl, h1, h2⟩; have H1 := Aside0.mk h1; have H3 := Aside0.mk h2; clear h1 h2)
            go_meet
            exact ⟨ScE.stop j N d c H13.out hc HN.out HZ.out HEr.out HF.out HDG.out H1.out H3.out HB.out HH.out.2.2.1 HH.out.2.2.2.1⟩
          · have b46 : ((y : Int) == 46) = false := beq_eq_false_iff_ne.2 (by omega)
            have b95 : ((y : Int) == 95) = false := beq_eq_false_iff_ne.2 (by omega)
            have d1 : decide ((48 : Int) ≤ (y : Int)) = true := decide_eq_true (by omega)
            have d2 : decide ((y : Int) ≤ 57) = false := decide_eq_false (by omega)
            have d3 : decide ((97 : Int) ≤ (y : Int)) = false := decide_eq_false (by omega)
            have d4 : decide ((y : Int) ≤ 122) = true := decide_eq_true (by omega)
            have d5 : decide ((65 : Int) ≤ (y : Int)) = true := decide_eq_true (by omega)
            have d6 : decide ((y : Int) ≤ 90) = false := decide_eq_false (by omega)
            clear hc0 hy
            go_wp2_with (show Calls Tryd.prog 142 #[.pointer (some ⟨g, 0, none⟩)] _ _; (with_reducible refine (hC3.out).mono ?_); rintro e W2 ⟨rfl, h1, h2⟩; have H1 := Aside0.mk h1; have H3 := Aside0.mk h2; clear h1 h2)
            go_meet
            exact ⟨ScE.stop j N d c H13.out hc HN.out HZ.out HEr.out HF.out HDG.out H1.out H3.out HB.out HH.out.2.2.1 HH.out.2.2.2.1⟩
          · have b46 : ((y : Int) == 46) = false := beq_eq_false_iff_ne.2 (by omega)
            have b95 : ((y : Int) == 95) = false := beq_eq_false_iff_ne.2 (by omega)
            have d1 : decide ((48 : Int) ≤ (y : Int)) = true := decide_eq_true (by omega)
            have d2 : decide ((y : Int) ≤ 57) = false := decide_eq_false (by omega)
            have d3 : decide ((97 : Int) ≤ (y : Int)) = true := decide_eq_true (by omega)
            have d4 : decide ((y : Int) ≤ 122) = false := decide_eq_false (by omega)
            have d5 : decide ((65 : Int) ≤ (y : Int)) = true := decide_eq_true (by omega)
            have d6 : decide ((y : Int) ≤ 90) = false := decide_eq_false (by omega)
            clear hc0 hy
            go_wp2_with (show Calls Tryd.prog 142 #[.pointer (some ⟨g, 0, none⟩)] _ _; (with_reducible refine (hC3.out).mono ?_); rintro e W2 ⟨rfl, h1, h2⟩; have H1 := Aside0.mk h1; have H3 := Aside0.mk h2; clear h1 h2)
            go_meet
            exact ⟨ScE.stop j N d c H13.out hc HN.out HZ.out HEr.out HF.out HDG.out H1.out H3.out HB.out HH.out.2.2.1 HH.out.2.2.2.1⟩
          · clear hy
            go_wp2_with (show Calls Tryd.prog 142 #[.pointer (some ⟨g, 0, none⟩)] _ _; (with_reducible refine (hC3.out).mono ?_); rintro e W2 ⟨rfl, h1, h2⟩; have H1 := Aside0.mk h1; have H3 := Aside0.mk h2; clear h1 h2)
            go_meet
            exact ⟨ScE.stop j N d c H13.out hc HN.out HZ.out HEr.out HF.out HDG.out H1.out H3.out HB.out HH.out.2.2.1 HH.out.2.2.2.1⟩
          · clear hy
            go_wp2_with (show Calls Tryd.prog 142 #[.pointer (some ⟨g, 0, none⟩)] _ _; (with_reducible refine (hC3.out).mono ?_); rintro e W2 ⟨rfl, h1, h2⟩; have H1 := Aside0.mk h1; have H3 := Aside0.mk h2; clear h1 h2)
            go_meet
            exact ⟨ScE.stop j N d c H13.out hc HN.out HZ.out HEr.out HF.out HDG.out H1.out H3.out HB.out HH.out.2.2.1 HH.out.2.2.2.1⟩
      · have HQ := Aside0.mk hq
        have HEND := Aside0.mk hend
        clear hend hq HH
        go_wp2
        go_meet
        exact ⟨⟨j, N, d, c, rfl, rfl, rfl, H13.out, rfl, rfl, hc, HN, HZ, HEr, HF, .inr ⟨HEND.out.symm, rfl⟩, ⟨by have := HR.out; rw [HQ.out] at this; exact this⟩, HB⟩⟩
  case rest =>
    clear hC hM HE H0 H1 H2
    obtain ⟨j, N, d, c, rfl, rfl, rfl, h13, rfl, rfl, hc, HN, HZ, HEr, HF, hx, HR, HB⟩ := hcut.out
    clear hcut
    have hEOF : wc.cell? ⟨gEOF, 0, none⟩ = some (EV a) := HEr.out
    have hND : wc.cell? ⟨gND, 0, none⟩ = some (EV a2) := HND.out.1.fr HF.out HND.out.2.1 HND.out.2.2
    have hq0 : ∀ W, (binOp .eql 46 .nilIface (.iface 166 (.pointer (some a)))).run Tryd.prog W = .ok (.bool false) W := fun W => run_eql_iface_nil_left _ _ _ Tryd.underlying46
    have hq1 := ss_eqE a
    have hbn : ((bn : Int) == 0) = false := beq_eq_false_iff_ne.2 (by rw [HBN.out, tp19]; decide)
    have hbn2 : (bn == 0) = false := beq_eq_false_iff_ne.2 (by rw [HBN.out, tp19]; decide)
    have HX : Aside0 ((∃ h : i0 + j < s.size, By.dg s[i0 + j] = false) ∨ i0 + j = s.size) := ⟨hx.imp (fun ⟨h1, h2, _⟩ => ⟨h1, h2⟩) (fun ⟨h1, _⟩ => h1)⟩
    have hu : u11 = .nilIface ∨ u11 = EV a := hx.imp (fun ⟨_, _, h⟩ => h) (fun ⟨_, h⟩ => h)
    have HK : Aside0 (i0 + j ≤ s.size ∧ (dcs s i0 j).all By.dg = true ∧ NV (dcs s i0 j) = N * tp c + d ∧ d < tp c ∧ c ≤ j) := ⟨HN.out.2.2.1, HN.out.2.2.2.1, HN.out.2.2.2.2, HN.out.2.1, HN.out.1⟩
    clear hx HN
    by_cases hj : j = 0
    · subst hj
      obtain ⟨rfl, rfl⟩ := HZ.out.zero
      obtain rfl : c = 0 := by have := HK.out.2.2.2.2; omega
      have hd0 : d = 0 := by have := HK.out.2.2.2.1; simp [tp] at this; exact this
      subst hd0
      rcases hu with rfl | rfl <;> rcases h13 with rfl | rfl
      all_goals
        go_wp2
        exact bodyPost_ret (v := .tuple #[.slice none 0 0, .int .i64 10, .int .i64 0, EV a2]) (by simp [results, Tryd.results94, go_sem]) rfl ⟨0, HK.out.1, HK.out.2.1, HX.out, HR.out, HF.out, .inl ⟨rfl, rfl⟩⟩
    · have hj0 : ((j : Int) == 0) = false := beq_eq_false_iff_ne.2 (by omega)
      have hj02 : (j == 0) = false := beq_eq_false_iff_ne.2 hj
      have HJ : Aside0 (1 ≤ j) := ⟨by omega⟩
      clear hj
      by_cases h0 : c = 0
      · subst h0
        have hd0 : d = 0 := by have := HK.out.2.2.2.1; simp [tp] at this; exact this
        subst hd0
        rcases hu with rfl | rfl <;> rcases h13 with rfl | rfl
        all_goals
          go_wp2
          exact bodyPost_ret (v := .tuple #[u0, .int .i64 10, .int .i64 (j : Int), .nilIface]) (by simp [results, Tryd.results94, go_sem]) rfl ⟨j, HK.out.1, HK.out.2.1, HX.out, HR.out, HF.out, .inr ⟨HJ.out, u0, rfl, by have h := HZ.out.more (Nat.le_succ j); have h2 := HK.out.2.2.1; simp [tp] at h2; rw [h2]; exact h⟩⟩
      · have hc0 : decide ((0 : Int) < (c : Int)) = true := decide_eq_true (by omega)
        have hc02 : decide (0 < c) = true := decide_eq_true (by omega)
        have hc03 : 0 < c := by omega
        have hc04 : (0 : Int) < (c : Int) := by omega
        have hP := Aside0.mk (fun W => ss_pow c hc W)
        have hA : Aside0 (∀ p : Nat, p = tp c → _) := ⟨fun p hp => ss_mulAddWW base j N p d u0 (by have := HH.out.2.1; have := HK.out.1; omega) (by rw [hp]; exact tp_pos c) (by rw [hp]; have := tp_le hc; rw [tp18] at this; omega) (by have := HK.out.2.2.2.1; have := tp_le hc; rw [tp18] at this; omega) wc HB.out HZ.out⟩
        clear h0
        rcases hu with rfl | rfl <;> rcases h13 with rfl | rfl
        all_goals
          go_wp2_with (first | (go_at_call 99; (with_reducible refine (hP.out _).mono ?_); rintro e w' ⟨p, rfl, hp, rfl⟩; have HP2 := Aside0.mk hp; have hA2 := Aside0.mk (hA.out p hp); clear hp) | (go_at_call 98; (with_reducible refine (hA2.out).mono ?_)))
          rintro e W2 ⟨v', rfl, hz, hbl⟩
          have HZ2 : Aside0 (NZ base (j + 1) W2 v' (NV (dcs s i0 j))) := ⟨by rw [HK.out.2.2.1, ← HP2.out]; exact hz⟩
          have HR2 := Aside0.mk (HR.out.below hbl HH.out.2.2.2.1)
          have HF2 := Aside0.mk (HF.out.below hbl HH.out.2.2.2.1)
          clear hz hbl
          go_wp2
          exact bodyPost_ret (v := .tuple #[v', .int .i64 10, .int .i64 (j : Int), .nilIface]) (by simp [results, Tryd.results94, go_sem]) rfl ⟨j, HK.out.1, HK.out.2.1, HX.out, HR2.out, HF2.out, .inr ⟨HJ.out, v', rfl, HZ2.out⟩⟩

end Go.Proofs.YtnbokeodgendkaaDoor.Ss
