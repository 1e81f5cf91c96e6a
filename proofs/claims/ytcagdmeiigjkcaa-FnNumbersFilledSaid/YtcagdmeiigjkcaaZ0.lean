-- Written by a program of this session (myprint.py).
import Derived.Test.YtcagdmeiigjkcaaProg
import Derived.Below
import Derived.Deep.Draws
import Derived.Deep.AppendLies
import Derived.Maps.AppendAt
import Derived.OwnWalk
import Derived.Laws.BytesArg
import Derived.Laws.MakeOwn
import Derived.Laws.OwnMore
import Derived.Deep.OwnRows
import Derived.Tactics
import Derived.Lib.ConvBytes
import Derived.Laws.Slices
import Derived.WalkKit
import Derived.KernelRfl
import Derived.RowKit3
import Derived.Deep.LoopGhost
import Derived.Deep.QuietTactic
import Derived.BigQuiet
import Derived.WideLaws
import Derived.Deep.DeepCutAuto
import Derived.Deep.CutBlock
import Derived.Deep.RegionHeld3
import Derived.Laws.Rows
import Derived.Lib.AppendStr
import Derived.ArgAppend
import Derived.Laws.IdiomCopy
import Derived.OrdersHeld
import Derived.Laws.BitsLemmas
import Derived.RowKit
import Derived.Test.YtcagdmeiigjkcaaWWords
import Derived.Test.YtcagdmeiigjkcaaWLast
import Derived.Test.YtcagdmeiigjkcaaWTab
import Derived.Test.YtcagdmeiigjkcaaWFour
import Derived.Test.YtcagdmeiigjkcaaWQPut
import Derived.Test.YtcagdmeiigjkcaaWApart
import Derived.Test.YtcagdmeiigjkcaaWArr
import Derived.Test.YtcagdmeiigjkcaaWZeros
import Derived.Test.YtcagdmeiigjkcaaWFoot
import Derived.Test.YtcagdmeiigjkcaaWKept
import Derived.Test.YtcagdmeiigjkcaaWShare
import Derived.Test.YtcagdmeiigjkcaaWN
import Derived.Test.YtcagdmeiigjkcaaWFootNe
import Derived.Test.YtcagdmeiigjkcaaWAt
import Derived.Test.YtcagdmeiigjkcaaWEqStruct
import Derived.Test.YtcagdmeiigjkcaaWRepsOne
import Derived.Test.YtcagdmeiigjkcaaWInv
import Derived.Test.YtcagdmeiigjkcaaWInvWords
import Derived.Test.YtcagdmeiigjkcaaWGuard
import Derived.Test.YtcagdmeiigjkcaaWNEv
import Derived.Test.YtcagdmeiigjkcaaWMore
import Derived.Test.YtcagdmeiigjkcaaGe
namespace Go.Proofs.Ytcagdmeiigjkcaa.Z
open Go.RowKit Go.Proofs.YtcagdmeiigjkcaaW.PrintWords Go.Proofs.YtcagdmeiigjkcaaW.PrintLast Go.Proofs.YtcagdmeiigjkcaaW.PrintMore
attribute [local go_sem high] Go.Proofs.Ytcagdmeiigjkcaa.Ge.gtr_str
attribute [local go_sem] max2_int min2_int max_two min_two max_three min_three max_four min_four   -- for this text's walks alone
set_option linter.unusedVariables false
set_option linter.unusedSimpArgs false



def errW : Option Int → Value
  | none => .nilIface
  | some c => .iface 0 (.int .i64 c)
theorem errW_none : errW none = .nilIface := rfl
theorem errW_some (c : Int) : errW (some c) = .iface 0 (.int .i64 c) := rfl

theorem info5 : (Try.prog.info? 5).map (fun i => (i.zero, i.size, i.bytes)) = some (some (.int .u8 0), 1, 1) := by kernel_rfl
theorem info28 : (Try.prog.info? 28).map (fun i => (i.zero, i.size, i.bytes)) = some (some (.agg #[(.bool false), (.string ⟨#[]⟩)]), 2, 24) := by kernel_rfl
theorem info93 : (Try.prog.info? 93).map (fun i => (i.zero, i.size, i.bytes)) = some (some (.agg #[(.bool false), (.string ⟨#[]⟩)]), 2, 24) := by kernel_rfl
-- the values' own types
/-! #### struct type 28 -/
structure S28 where
  f0 : Bool
  f1 : ByteArray
def z28 : S28 := ⟨false, (⟨#[]⟩ : ByteArray)⟩
def k28 : Kd S28 := Kd.iso (Kd.pair Kd.bool Kd.string) (fun x : S28 => (x.f0, x.f1))
theorem k28_open {w : World} {x : S28} {cs : List Value} (h : k28.K w x cs) : cs = [.bool x.f0, .string x.f1] := by
  obtain ⟨_, _, rfl, rfl, rfl⟩ := h
  exact rfl
theorem k28_openM {w : World} {base : Nat} {ok : Nat → Prop} {x : S28} {cs : List Value} (h : k28.M w base ok x cs) : cs = [.bool x.f0, .string x.f1] := by
  obtain ⟨_, _, rfl, rfl, rfl⟩ := h
  exact rfl
theorem k28_mk (w : World) (x : S28)  : k28.K w x [.bool x.f0, .string x.f1] := ⟨[.bool x.f0], [.string x.f1], rfl, rfl, rfl⟩
theorem k28_mkM (w : World) (base : Nat) (ok : Nat → Prop) (x : S28)  : k28.M w base ok x [.bool x.f0, .string x.f1] := ⟨[.bool x.f0], [.string x.f1], rfl, rfl, rfl⟩
def rd_T28 (xs : List S28) (i : Int) : S28 := xs.getD i.toNat z28
theorem at_T28 {w : World} {A : Option Addr} {n : Nat} {xs : List S28} (h : Kd.C k28 w A n xs) (i : Int) (h0 : 0 ≤ i) (h1 : i < n) : ∃ ad , A = some ad ∧ w.cell? (ad.add (i.toNat * 2)) = some (.bool (rd_T28 xs i).f0) ∧ w.cell? ⟨(ad.add (i.toNat * 2)).block, (ad.add (i.toNat * 2)).off + 1, none⟩ = some (.string (rd_T28 xs i).f1) := by
  obtain ⟨ad, c, e, _, hK, hc0⟩ := Kd.C_get h z28 i h0 h1
  have hc : ∀ j u, c[j]? = some u → w.cell? (ad.add (i.toNat * 2 + j)) = some u := hc0
  obtain rfl := k28_open hK
  exact ⟨ad, e, hc 0 _ rfl, by rw [← add_field _ _ 1 (by omega)]; exact hc 1 _ rfl⟩

/-! #### struct type 93 -/
structure S93 where
  f0 : Bool
  f1 : ByteArray
def z93 : S93 := ⟨false, (⟨#[]⟩ : ByteArray)⟩
def k93 : Kd S93 := Kd.iso (Kd.pair Kd.bool Kd.string) (fun x : S93 => (x.f0, x.f1))
theorem k93_open {w : World} {x : S93} {cs : List Value} (h : k93.K w x cs) : cs = [.bool x.f0, .string x.f1] := by
  obtain ⟨_, _, rfl, rfl, rfl⟩ := h
  exact rfl
theorem k93_openM {w : World} {base : Nat} {ok : Nat → Prop} {x : S93} {cs : List Value} (h : k93.M w base ok x cs) : cs = [.bool x.f0, .string x.f1] := by
  obtain ⟨_, _, rfl, rfl, rfl⟩ := h
  exact rfl
theorem k93_mk (w : World) (x : S93)  : k93.K w x [.bool x.f0, .string x.f1] := ⟨[.bool x.f0], [.string x.f1], rfl, rfl, rfl⟩
theorem k93_mkM (w : World) (base : Nat) (ok : Nat → Prop) (x : S93)  : k93.M w base ok x [.bool x.f0, .string x.f1] := ⟨[.bool x.f0], [.string x.f1], rfl, rfl, rfl⟩
def rd_T93 (xs : List S93) (i : Int) : S93 := xs.getD i.toNat z93
theorem at_T93 {w : World} {A : Option Addr} {n : Nat} {xs : List S93} (h : Kd.C k93 w A n xs) (i : Int) (h0 : 0 ≤ i) (h1 : i < n) : ∃ ad , A = some ad ∧ w.cell? (ad.add (i.toNat * 2)) = some (.bool (rd_T93 xs i).f0) ∧ w.cell? ⟨(ad.add (i.toNat * 2)).block, (ad.add (i.toNat * 2)).off + 1, none⟩ = some (.string (rd_T93 xs i).f1) := by
  obtain ⟨ad, c, e, _, hK, hc0⟩ := Kd.C_get h z93 i h0 h1
  have hc : ∀ j u, c[j]? = some u → w.cell? (ad.add (i.toNat * 2 + j)) = some u := hc0
  obtain rfl := k93_open hK
  exact ⟨ad, e, hc 0 _ rfl, by rw [← add_field _ _ 1 (by omega)]; exact hc 1 _ rfl⟩

def rd_L6 (xs : List (List S28)) (i : Int) : (List S28) := xs.getD i.toNat ([] : List S28)
theorem at_L6 {w : World} {A : Option Addr} {n : Nat} {xs : List (List S28)} (h : Kd.C (Kd.slice 28 k28) w A n xs) (i : Int) (h0 : 0 ≤ i) (h1 : i < n) : ∃ ad A0 c0, A = some ad ∧ w.cell? (ad.add i.toNat) = some (.slice A0 (rd_L6 xs i).length c0) ∧ (rd_L6 xs i).length ≤ c0 ∧ k28.C w A0 (rd_L6 xs i).length (rd_L6 xs i) := by
  obtain ⟨ad, c, e, _, hK, hc0⟩ := Kd.C_get h ([] : List S28) i h0 h1
  have hc : ∀ j u, c[j]? = some u → w.cell? (ad.add (i.toNat * 1 + j)) = some u := hc0
  obtain ⟨A0, c0, rfl, l0, g0⟩ := hK
  exact ⟨ad, A0, c0, e, by have hq := hc 0 _ rfl; rwa [Nat.mul_one, Nat.add_zero] at hq, l0, g0⟩

end Go.Proofs.Ytcagdmeiigjkcaa.Z
