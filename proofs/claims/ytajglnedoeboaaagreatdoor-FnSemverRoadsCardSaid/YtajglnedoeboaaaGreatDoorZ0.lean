-- Written by a program of this session (myprint.py).
import Derived.Test.YtajglnedoeboaaaGreatDoorProg
import Derived.Test.YtajglnedoeboaaaGreatDoorGw
import Derived.Below
import Derived.Deep.Draws
import Derived.Deep.AppendLies
import Derived.Maps.AppendAt
import Derived.OwnWalk
import Derived.Laws.BytesArg
import Derived.Laws.MakeOwn
import Derived.Laws.OwnMore
import Derived.Deep.OwnRows
import Derived.Tactics
import Derived.Lib.ConvBytes
import Derived.Laws.Slices
import Derived.WalkKit
import Derived.KernelRfl
import Derived.RowKit3
import Derived.Deep.LoopGhost
import Derived.Deep.QuietTactic
import Derived.BigQuiet
import Derived.WideLaws
import Derived.Deep.DeepCutAuto
import Derived.Deep.CutBlock
import Derived.Deep.RegionHeld3
import Derived.Laws.Rows
import Derived.Lib.AppendStr
import Derived.ArgAppend
import Derived.Laws.IdiomCopy
import Derived.OrdersHeld
import Derived.Laws.BitsLemmas
import Derived.RowKit
import Derived.Test.YtajglnedoeboaaaGreatDoorWW
import Derived.Test.YtajglnedoeboaaaGreatDoorGe
namespace Go.Proofs.YtajglnedoeboaaaGreatDoor.Z
open Go.Proofs.YtajglnedoeboaaaGreatDoor.Gw
open Go.RowKit Go.Proofs.YtajglnedoeboaaaGreatDoorW.PrintWords Go.Proofs.YtajglnedoeboaaaGreatDoorW.PrintLast Go.Proofs.YtajglnedoeboaaaGreatDoorW.PrintMore
attribute [local go_sem high] Go.Proofs.YtajglnedoeboaaaGreatDoor.Ge.gtr_str
attribute [local go_sem] max2_int min2_int max_two min_two max_three min_three max_four min_four   -- for this text's walks alone
set_option linter.unusedVariables false
set_option linter.unusedSimpArgs false



def errW : Option Int → Value
  | none => .nilIface
  | some c => .iface 0 (.int .i64 c)
theorem errW_none : errW none = .nilIface := rfl
theorem errW_some (c : Int) : errW (some c) = .iface 0 (.int .i64 c) := rfl

theorem info5 : (Tryz.prog.info? 5).map (fun i => (i.zero, i.size, i.bytes)) = some (some (.int .u8 0), 1, 1) := by kernel_rfl
theorem info9 : (Tryz.prog.info? 9).map (fun i => (i.zero, i.size, i.bytes)) = some (some (.string ⟨#[]⟩), 1, 16) := by kernel_rfl
theorem info85 : (Tryz.prog.info? 85).map (fun i => (i.zero, i.size, i.bytes)) = some (some (.agg #[(.bool false), (.string ⟨#[]⟩)]), 2, 24) := by kernel_rfl
-- the values' own types
/-! #### struct type 66 -/
structure S66 where
  f0 : Bool
  f1 : ByteArray
def z66 : S66 := ⟨false, (⟨#[]⟩ : ByteArray)⟩
def k66 : Kd S66 := Kd.iso (Kd.pair Kd.bool Kd.string) (fun x : S66 => (x.f0, x.f1))
theorem k66_open {w : World} {x : S66} {cs : List Value} (h : k66.K w x cs) : cs = [.bool x.f0, .string x.f1] := by
  obtain ⟨_, _, rfl, rfl, rfl⟩ := h
  exact rfl
def rd_T66 (xs : List S66) (i : Int) : S66 := xs.getD i.toNat z66
theorem at_T66 {w : World} {A : Option Addr} {n : Nat} {xs : List S66} (h : Kd.C k66 w A n xs) (i : Int) (h0 : 0 ≤ i) (h1 : i < n) : ∃ ad , A = some ad ∧ w.cell? (ad.add (i.toNat * 2)) = some (.bool (rd_T66 xs i).f0) ∧ w.cell? ⟨(ad.add (i.toNat * 2)).block, (ad.add (i.toNat * 2)).off + 1, none⟩ = some (.string (rd_T66 xs i).f1) := by
  obtain ⟨ad, c, e, _, hK, hc0⟩ := Kd.C_get h z66 i h0 h1
  have hc : ∀ j u, c[j]? = some u → w.cell? (ad.add (i.toNat * 2 + j)) = some u := hc0
  obtain rfl := k66_open hK
  exact ⟨ad, e, hc 0 _ rfl, by rw [← add_field _ _ 1 (by omega)]; exact hc 1 _ rfl⟩

/-! #### struct type 24 -/
structure S24 where
  f0 : Bool
  f1 : (List S66)
  f2 : ByteArray
  f3 : ByteArray
def z24 : S24 := ⟨false, ([] : List S66), (⟨#[]⟩ : ByteArray), (⟨#[]⟩ : ByteArray)⟩
def k24 : Kd S24 := Kd.iso (Kd.pair Kd.bool (Kd.pair (Kd.slice 66 k66) (Kd.pair Kd.string Kd.string))) (fun x : S24 => (x.f0, x.f1, x.f2, x.f3))
theorem k24_open {w : World} {x : S24} {cs : List Value} (h : k24.K w x cs) : ∃ A1 c1, cs = [.bool x.f0, .slice A1 x.f1.length c1, .string x.f2, .string x.f3] ∧ x.f1.length ≤ c1 ∧ k66.C w A1 x.f1.length x.f1 := by
  obtain ⟨_, _, rfl, rfl, ⟨_, _, rfl, ⟨A1, c1, rfl, l1, g1⟩, ⟨_, _, rfl, rfl, rfl⟩⟩⟩ := h
  exact ⟨A1, c1, rfl, l1, g1⟩
theorem k24_mk (w : World) (x : S24) {A1 : Option Addr} {c1 : Nat} (l1 : x.f1.length ≤ c1) (g1 : k66.C w A1 x.f1.length x.f1) : k24.K w x [.bool x.f0, .slice A1 x.f1.length c1, .string x.f2, .string x.f3] := ⟨[.bool x.f0], [.slice A1 x.f1.length c1, .string x.f2, .string x.f3], rfl, rfl, ⟨[.slice A1 x.f1.length c1], [.string x.f2, .string x.f3], rfl, ⟨A1, c1, rfl, l1, g1⟩, ⟨[.string x.f2], [.string x.f3], rfl, rfl, rfl⟩⟩⟩
theorem k24_mkF (W : World) (ok : Nat → Prop) (x : S24) {A1 : Option Addr} {c1 : Nat} (l1 : x.f1.length ≤ c1) (g1 : Kd.F k66 W ok A1 x.f1.length x.f1) : Kd.FK k24 W ok x [.bool x.f0, .slice A1 x.f1.length c1, .string x.f2, .string x.f3] := fun W2 hW => k24_mk W2 x l1 (g1 W2 hW)
def rd_T24 (xs : List S24) (i : Int) : S24 := xs.getD i.toNat z24
theorem at_T24 {w : World} {A : Option Addr} {n : Nat} {xs : List S24} (h : Kd.C k24 w A n xs) (i : Int) (h0 : 0 ≤ i) (h1 : i < n) : ∃ ad A1 c1, A = some ad ∧ w.cell? (ad.add (i.toNat * 4)) = some (.bool (rd_T24 xs i).f0) ∧ w.cell? ⟨(ad.add (i.toNat * 4)).block, (ad.add (i.toNat * 4)).off + 1, none⟩ = some (.slice A1 (rd_T24 xs i).f1.length c1) ∧ w.cell? ⟨(ad.add (i.toNat * 4)).block, (ad.add (i.toNat * 4)).off + 2, none⟩ = some (.string (rd_T24 xs i).f2) ∧ w.cell? ⟨(ad.add (i.toNat * 4)).block, (ad.add (i.toNat * 4)).off + 3, none⟩ = some (.string (rd_T24 xs i).f3) ∧ (rd_T24 xs i).f1.length ≤ c1 ∧ k66.C w A1 (rd_T24 xs i).f1.length (rd_T24 xs i).f1 := by
  obtain ⟨ad, c, e, _, hK, hc0⟩ := Kd.C_get h z24 i h0 h1
  have hc : ∀ j u, c[j]? = some u → w.cell? (ad.add (i.toNat * 4 + j)) = some u := hc0
  obtain ⟨A1, c1, rfl, l1, g1⟩ := k24_open hK
  exact ⟨ad, A1, c1, e, hc 0 _ rfl, by rw [← add_field _ _ 1 (by omega)]; exact hc 1 _ rfl, by rw [← add_field _ _ 2 (by omega)]; exact hc 2 _ rfl, by rw [← add_field _ _ 3 (by omega)]; exact hc 3 _ rfl, l1, g1⟩

/-! #### struct type 85 -/
structure S85 where
  f0 : Bool
  f1 : ByteArray
def k85 : Kd S85 := Kd.iso (Kd.pair Kd.bool Kd.string) (fun x : S85 => (x.f0, x.f1))
theorem k85_open {w : World} {x : S85} {cs : List Value} (h : k85.K w x cs) : cs = [.bool x.f0, .string x.f1] := by
  obtain ⟨_, _, rfl, rfl, rfl⟩ := h
  exact rfl
theorem k85_mkM (w : World) (base : Nat) (ok : Nat → Prop) (x : S85)  : k85.M w base ok x [.bool x.f0, .string x.f1] := ⟨[.bool x.f0], [.string x.f1], rfl, rfl, rfl⟩
/-! #### struct type 53 -/
structure S53 where
  f0 : Bool
  f1 : (List S85)
  f2 : ByteArray
  f3 : ByteArray
def z53 : S53 := ⟨false, ([] : List S85), (⟨#[]⟩ : ByteArray), (⟨#[]⟩ : ByteArray)⟩
end Go.Proofs.YtajglnedoeboaaaGreatDoor.Z
