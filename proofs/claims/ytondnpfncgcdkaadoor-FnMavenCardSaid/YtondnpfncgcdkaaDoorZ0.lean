-- Written by a program of this session (myprint.py).
import Derived.Test.YtondnpfncgcdkaaDoorProg
import Derived.Test.YtondnpfncgcdkaaDoorGk
import Derived.Below
import Derived.Deep.Draws
import Derived.Deep.AppendLies
import Derived.Maps.AppendAt
import Derived.OwnWalk
import Derived.Laws.BytesArg
import Derived.Laws.MakeOwn
import Derived.Laws.OwnMore
import Derived.Deep.OwnRows
import Derived.Tactics
import Derived.Lib.ConvBytes
import Derived.Laws.Slices
import Derived.WalkKit
import Derived.KernelRfl
import Derived.RowKit3
import Derived.Deep.LoopGhost
import Derived.Deep.QuietTactic
import Derived.BigQuiet
import Derived.WideLaws
import Derived.Deep.DeepCutAuto
import Derived.Deep.CutBlock
import Derived.Deep.RegionHeld3
import Derived.Laws.Rows
import Derived.Lib.AppendStr
import Derived.ArgAppend
import Derived.Laws.IdiomCopy
import Derived.OrdersHeld
import Derived.Laws.BitsLemmas
import Derived.RowKit
import Derived.Test.YtondnpfncgcdkaaDoorWW
import Derived.Test.YtondnpfncgcdkaaDoorGe
namespace Go.Proofs.YtondnpfncgcdkaaDoor.Z
open Go.Proofs.YtondnpfncgcdkaaDoor.Gw
open Go.RowKit Go.Proofs.YtondnpfncgcdkaaDoorW.PrintWords Go.Proofs.YtondnpfncgcdkaaDoorW.PrintLast Go.Proofs.YtondnpfncgcdkaaDoorW.PrintMore
attribute [local go_sem high] Go.Proofs.YtondnpfncgcdkaaDoor.Ge.gtr_str
attribute [local go_sem] max2_int min2_int max_two min_two max_three min_three max_four min_four   -- for this text's walks alone
set_option linter.unusedVariables false
set_option linter.unusedSimpArgs false



def errW : Option Int → Value
  | none => .nilIface
  | some c => .iface 0 (.int .i64 c)
theorem errW_none : errW none = .nilIface := rfl
theorem errW_some (c : Int) : errW (some c) = .iface 0 (.int .i64 c) := rfl

theorem info53 : (Tryd.prog.info? 53).map (fun i => (i.zero, i.size, i.bytes)) = some (some (.agg #[(.string ⟨#[]⟩), (.string ⟨#[]⟩), (.bool false)]), 3, 40) := by kernel_rfl
theorem info70 : (Tryd.prog.info? 70).map (fun i => (i.zero, i.size, i.bytes)) = some (some (.agg #[(.string ⟨#[]⟩), (.string ⟨#[]⟩), (.bool false)]), 3, 40) := by kernel_rfl
-- the values' own types
/-! #### struct type 23 -/
structure S23 where
  f0 : ByteArray
  f1 : ByteArray
  f2 : Bool
def z23 : S23 := ⟨(⟨#[]⟩ : ByteArray), (⟨#[]⟩ : ByteArray), false⟩
def k23 : Kd S23 := Kd.iso (Kd.pair Kd.string (Kd.pair Kd.string Kd.bool)) (fun x : S23 => (x.f0, x.f1, x.f2))
theorem k23_open {w : World} {x : S23} {cs : List Value} (h : k23.K w x cs) : cs = [.string x.f0, .string x.f1, .bool x.f2] := by
  obtain ⟨_, _, rfl, rfl, ⟨_, _, rfl, rfl, rfl⟩⟩ := h
  exact rfl
def rd_T23 (xs : List S23) (i : Int) : S23 := xs.getD i.toNat z23
theorem at_T23 {w : World} {A : Option Addr} {n : Nat} {xs : List S23} (h : Kd.C k23 w A n xs) (i : Int) (h0 : 0 ≤ i) (h1 : i < n) : ∃ ad , A = some ad ∧ w.cell? (ad.add (i.toNat * 3)) = some (.string (rd_T23 xs i).f0) ∧ w.cell? ⟨(ad.add (i.toNat * 3)).block, (ad.add (i.toNat * 3)).off + 1, none⟩ = some (.string (rd_T23 xs i).f1) ∧ w.cell? ⟨(ad.add (i.toNat * 3)).block, (ad.add (i.toNat * 3)).off + 2, none⟩ = some (.bool (rd_T23 xs i).f2) := by
  obtain ⟨ad, c, e, _, hK, hc0⟩ := Kd.C_get h z23 i h0 h1
  have hc : ∀ j u, c[j]? = some u → w.cell? (ad.add (i.toNat * 3 + j)) = some u := hc0
  obtain rfl := k23_open hK
  exact ⟨ad, e, hc 0 _ rfl, by rw [← add_field _ _ 1 (by omega)]; exact hc 1 _ rfl, by rw [← add_field _ _ 2 (by omega)]; exact hc 2 _ rfl⟩

def rd_L3 (xs : List (List S23)) (i : Int) : (List S23) := xs.getD i.toNat ([] : List S23)
theorem at_L3 {w : World} {A : Option Addr} {n : Nat} {xs : List (List S23)} (h : Kd.C (Kd.slice 23 k23) w A n xs) (i : Int) (h0 : 0 ≤ i) (h1 : i < n) : ∃ ad A0 c0, A = some ad ∧ w.cell? (ad.add i.toNat) = some (.slice A0 (rd_L3 xs i).length c0) ∧ (rd_L3 xs i).length ≤ c0 ∧ k23.C w A0 (rd_L3 xs i).length (rd_L3 xs i) := by
  obtain ⟨ad, c, e, _, hK, hc0⟩ := Kd.C_get h ([] : List S23) i h0 h1
  have hc : ∀ j u, c[j]? = some u → w.cell? (ad.add (i.toNat * 1 + j)) = some u := hc0
  obtain ⟨A0, c0, rfl, l0, g0⟩ := hK
  exact ⟨ad, A0, c0, e, by have hq := hc 0 _ rfl; rwa [Nat.mul_one, Nat.add_zero] at hq, l0, g0⟩

/-! #### struct type 53 -/
structure S53 where
  f0 : ByteArray
  f1 : ByteArray
  f2 : Bool
def z53 : S53 := ⟨(⟨#[]⟩ : ByteArray), (⟨#[]⟩ : ByteArray), false⟩
def k53 : Kd S53 := Kd.iso (Kd.pair Kd.string (Kd.pair Kd.string Kd.bool)) (fun x : S53 => (x.f0, x.f1, x.f2))
theorem k53_open {w : World} {x : S53} {cs : List Value} (h : k53.K w x cs) : cs = [.string x.f0, .string x.f1, .bool x.f2] := by
  obtain ⟨_, _, rfl, rfl, ⟨_, _, rfl, rfl, rfl⟩⟩ := h
  exact rfl
theorem k53_mkM (w : World) (base : Nat) (ok : Nat → Prop) (x : S53)  : k53.M w base ok x [.string x.f0, .string x.f1, .bool x.f2] := ⟨[.string x.f0], [.string x.f1, .bool x.f2], rfl, rfl, ⟨[.string x.f1], [.bool x.f2], rfl, rfl, rfl⟩⟩
def rd_T53 (xs : List S53) (i : Int) : S53 := xs.getD i.toNat z53
theorem at_T53 {w : World} {A : Option Addr} {n : Nat} {xs : List S53} (h : Kd.C k53 w A n xs) (i : Int) (h0 : 0 ≤ i) (h1 : i < n) : ∃ ad , A = some ad ∧ w.cell? (ad.add (i.toNat * 3)) = some (.string (rd_T53 xs i).f0) ∧ w.cell? ⟨(ad.add (i.toNat * 3)).block, (ad.add (i.toNat * 3)).off + 1, none⟩ = some (.string (rd_T53 xs i).f1) ∧ w.cell? ⟨(ad.add (i.toNat * 3)).block, (ad.add (i.toNat * 3)).off + 2, none⟩ = some (.bool (rd_T53 xs i).f2) := by
  obtain ⟨ad, c, e, _, hK, hc0⟩ := Kd.C_get h z53 i h0 h1
  have hc : ∀ j u, c[j]? = some u → w.cell? (ad.add (i.toNat * 3 + j)) = some u := hc0
  obtain rfl := k53_open hK
  exact ⟨ad, e, hc 0 _ rfl, by rw [← add_field _ _ 1 (by omega)]; exact hc 1 _ rfl, by rw [← add_field _ _ 2 (by omega)]; exact hc 2 _ rfl⟩

/-! #### struct type 70 -/
structure S70 where
  f0 : ByteArray
  f1 : ByteArray
  f2 : Bool
def k70 : Kd S70 := Kd.iso (Kd.pair Kd.string (Kd.pair Kd.string Kd.bool)) (fun x : S70 => (x.f0, x.f1, x.f2))
theorem k70_open {w : World} {x : S70} {cs : List Value} (h : k70.K w x cs) : cs = [.string x.f0, .string x.f1, .bool x.f2] := by
  obtain ⟨_, _, rfl, rfl, ⟨_, _, rfl, rfl, rfl⟩⟩ := h
  exact rfl
theorem k70_mkM (w : World) (base : Nat) (ok : Nat → Prop) (x : S70)  : k70.M w base ok x [.string x.f0, .string x.f1, .bool x.f2] := ⟨[.string x.f0], [.string x.f1, .bool x.f2], rfl, rfl, ⟨[.string x.f1], [.bool x.f2], rfl, rfl, rfl⟩⟩
end Go.Proofs.YtondnpfncgcdkaaDoor.Z
