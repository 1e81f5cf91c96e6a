-- Written by a program of this session (myprint.py).
import Derived.Test.YtipfmkfpaglkkaaGreatDoorProg
import Derived.Test.YtipfmkfpaglkkaaGreatDoorGw
import Derived.Below
import Derived.Deep.Draws
import Derived.Deep.AppendLies
import Derived.Maps.AppendAt
import Derived.OwnWalk
import Derived.Laws.BytesArg
import Derived.Laws.MakeOwn
import Derived.Laws.OwnMore
import Derived.Deep.OwnRows
import Derived.Tactics
import Derived.Lib.ConvBytes
import Derived.Laws.Slices
import Derived.WalkKit
import Derived.KernelRfl
import Derived.RowKit3
import Derived.Deep.LoopGhost
import Derived.Deep.QuietTactic
import Derived.BigQuiet
import Derived.WideLaws
import Derived.Deep.DeepCutAuto
import Derived.Deep.CutBlock
import Derived.Deep.RegionHeld3
import Derived.Laws.Rows
import Derived.Lib.AppendStr
import Derived.ArgAppend
import Derived.Laws.IdiomCopy
import Derived.OrdersHeld
import Derived.Laws.BitsLemmas
import Derived.RowKit
import Derived.Test.YtipfmkfpaglkkaaGreatDoorWW
import Derived.Test.YtipfmkfpaglkkaaGreatDoorGe
namespace Go.Proofs.YtipfmkfpaglkkaaGreatDoor.Z
open Go.Proofs.YtipfmkfpaglkkaaGreatDoor.Gw
open Go.RowKit Go.Proofs.YtipfmkfpaglkkaaGreatDoorW.PrintWords Go.Proofs.YtipfmkfpaglkkaaGreatDoorW.PrintLast Go.Proofs.YtipfmkfpaglkkaaGreatDoorW.PrintMore
attribute [local go_sem high] Go.Proofs.YtipfmkfpaglkkaaGreatDoor.Ge.gtr_str
attribute [local go_sem] max2_int min2_int max_two min_two max_three min_three max_four min_four   -- for this text's walks alone
set_option linter.unusedVariables false
set_option linter.unusedSimpArgs false



def errW : Option Int → Value
 | none => .nilIface
 | some c => .iface 0 (.int .i64 c)
theorem errW_none : errW none = .nilIface := rfl
theorem errW_some (c : Int) : errW (some c) = .iface 0 (.int .i64 c) := rfl

theorem info5 : (Tryz.prog.info? 5).map (fun i => (i.zero, i.size, i.bytes)) = some (some (.int .u8 0), 1, 1) := by kernel_rfl
theorem info60 : (Tryz.prog.info? 60).map (fun i => (i.zero, i.size, i.bytes)) = some (some (.agg #[(.bool false), (.string ⟨#[]⟩)]), 2, 24) := by kernel_rfl
-- the values' own types
/-! #### struct type 23 -/
structure S23 where
 f0 : Bool
 f1 : ByteArray
def z23 : S23 := ⟨false, (⟨#[]⟩ : ByteArray)⟩
def k23 : Kd S23 := Kd.iso (Kd.pair Kd.bool Kd.string) (fun x : S23 => (x.f0, x.f1))
theorem k23_open {w : World} {x : S23} {cs : List Value} (h : k23.K w x cs) : cs = [.bool x.f0, .string x.f1] := by
 obtain ⟨_, _, rfl, rfl, rfl⟩ := h
 exact rfl
theorem k23_mk (w : World) (x : S23)  : k23.K w x [.bool x.f0, .string x.f1] := ⟨[.bool x.f0], [.string x.f1], rfl, rfl, rfl⟩
theorem k23_mkM (w : World) (base : Nat) (ok : Nat → Prop) (x : S23)  : k23.M w base ok x [.bool x.f0, .string x.f1] := ⟨[.bool x.f0], [.string x.f1], rfl, rfl, rfl⟩
def rd_T23 (xs : List S23) (i : Int) : S23 := xs.getD i.toNat z23
theorem at_T23 {w : World} {A : Option Addr} {n : Nat} {xs : List S23} (h : Kd.C k23 w A n xs) (i : Int) (h0 : 0 ≤ i) (h1 : i < n) : ∃ ad , A = some ad ∧ w.cell? (ad.add (i.toNat * 2)) = some (.bool (rd_T23 xs i).f0) ∧ w.cell? ⟨(ad.add (i.toNat * 2)).block, (ad.add (i.toNat * 2)).off + 1, none⟩ = some (.string (rd_T23 xs i).f1) := by
 obtain ⟨ad, c, e, _, hK, hc0⟩ := Kd.C_get h z23 i h0 h1
 have hc : ∀ j u, c[j]? = some u → w.cell? (ad.add (i.toNat * 2 + j)) = some u := hc0
 obtain rfl := k23_open hK
 exact ⟨ad, e, hc 0 _ rfl, by rw [← add_field _ _ 1 (by omega)]; exact hc 1 _ rfl⟩

/-! #### struct type 26 -/
structure S26 where
 f0 : Bool
 f1 : ByteArray
 f2 : S23
def z26 : S26 := ⟨false, (⟨#[]⟩ : ByteArray), z23⟩
def k26 : Kd S26 := Kd.iso (Kd.pair Kd.bool (Kd.pair Kd.string k23)) (fun x : S26 => (x.f0, x.f1, x.f2))
theorem k26_open {w : World} {x : S26} {cs : List Value} (h : k26.K w x cs) : cs = [.bool x.f0, .string x.f1, .bool x.f2.f0, .string x.f2.f1] := by
 obtain ⟨_, _, rfl, rfl, ⟨_, _, rfl, rfl, s2⟩⟩ := h
 obtain rfl := k23_open s2
 exact rfl
theorem k26_mk (w : World) (x : S26)  : k26.K w x [.bool x.f0, .string x.f1, .bool x.f2.f0, .string x.f2.f1] := ⟨[.bool x.f0], [.string x.f1, .bool x.f2.f0, .string x.f2.f1], rfl, rfl, ⟨[.string x.f1], [.bool x.f2.f0, .string x.f2.f1], rfl, rfl, (k23_mk w x.f2 )⟩⟩
/-! #### struct type 29 -/
structure S29 where
 f0 : S23
 f1 : (List S23)
 f2 : S26
 f3 : S26
 f4 : S26
 f5 : (List ByteArray)
 f6 : (List ByteArray)
def z29 : S29 := ⟨z23, ([] : List S23), z26, z26, z26, ([] : List ByteArray), ([] : List ByteArray)⟩
def k29 : Kd S29 := Kd.iso (Kd.pair k23 (Kd.pair (Kd.slice 23 k23) (Kd.pair k26 (Kd.pair k26 (Kd.pair k26 (Kd.pair (Kd.slice 9 Kd.string) (Kd.slice 9 Kd.string))))))) (fun x : S29 => (x.f0, x.f1, x.f2, x.f3, x.f4, x.f5, x.f6))
theorem k29_open {w : World} {x : S29} {cs : List Value} (h : k29.K w x cs) : ∃ A2 c2 A15 c15 A16 c16, cs = [.bool x.f0.f0, .string x.f0.f1, .slice A2 x.f1.length c2, .bool x.f2.f0, .string x.f2.f1, .bool x.f2.f2.f0, .string x.f2.f2.f1, .bool x.f3.f0, .string x.f3.f1, .bool x.f3.f2.f0, .string x.f3.f2.f1, .bool x.f4.f0, .string x.f4.f1, .bool x.f4.f2.f0, .string x.f4.f2.f1, .slice A15 x.f5.length c15, .slice A16 x.f6.length c16] ∧ x.f1.length ≤ c2 ∧ k23.C w A2 x.f1.length x.f1 ∧ x.f5.length ≤ c15 ∧ Kd.string.C w A15 x.f5.length x.f5 ∧ x.f6.length ≤ c16 ∧ Kd.string.C w A16 x.f6.length x.f6 := by
 obtain ⟨_, _, rfl, s0, ⟨_, _, rfl, ⟨A2, c2, rfl, l2, g2⟩, ⟨_, _, rfl, s3, ⟨_, _, rfl, s7, ⟨_, _, rfl, s11, ⟨_, _, rfl, ⟨A15, c15, rfl, l15, g15⟩, ⟨A16, c16, rfl, l16, g16⟩⟩⟩⟩⟩⟩⟩ := h
 obtain rfl := k23_open s0
 obtain rfl := k26_open s3
 obtain rfl := k26_open s7
 obtain rfl := k26_open s11
 exact ⟨A2, c2, A15, c15, A16, c16, rfl, l2, g2, l15, g15, l16, g16⟩
theorem k29_mk (w : World) (x : S29) {A2 : Option Addr} {c2 : Nat} (l2 : x.f1.length ≤ c2) (g2 : k23.C w A2 x.f1.length x.f1) {A15 : Option Addr} {c15 : Nat} (l15 : x.f5.length ≤ c15) (g15 : Kd.string.C w A15 x.f5.length x.f5) {A16 : Option Addr} {c16 : Nat} (l16 : x.f6.length ≤ c16) (g16 : Kd.string.C w A16 x.f6.length x.f6) : k29.K w x [.bool x.f0.f0, .string x.f0.f1, .slice A2 x.f1.length c2, .bool x.f2.f0, .string x.f2.f1, .bool x.f2.f2.f0, .string x.f2.f2.f1, .bool x.f3.f0, .string x.f3.f1, .bool x.f3.f2.f0, .string x.f3.f2.f1, .bool x.f4.f0, .string x.f4.f1, .bool x.f4.f2.f0, .string x.f4.f2.f1, .slice A15 x.f5.length c15, .slice A16 x.f6.length c16] := ⟨[.bool x.f0.f0, .string x.f0.f1], [.slice A2 x.f1.length c2, .bool x.f2.f0, .string x.f2.f1, .bool x.f2.f2.f0, .string x.f2.f2.f1, .bool x.f3.f0, .string x.f3.f1, .bool x.f3.f2.f0, .string x.f3.f2.f1, .bool x.f4.f0, .string x.f4.f1, .bool x.f4.f2.f0, .string x.f4.f2.f1, .slice A15 x.f5.length c15, .slice A16 x.f6.length c16], rfl, (k23_mk w x.f0 ), ⟨[.slice A2 x.f1.length c2], [.bool x.f2.f0, .string x.f2.f1, .bool x.f2.f2.f0, .string x.f2.f2.f1, .bool x.f3.f0, .string x.f3.f1, .bool x.f3.f2.f0, .string x.f3.f2.f1, .bool x.f4.f0, .string x.f4.f1, .bool x.f4.f2.f0, .string x.f4.f2.f1, .slice A15 x.f5.length c15, .slice A16 x.f6.length c16], rfl, ⟨A2, c2, rfl, l2, g2⟩, ⟨[.bool x.f2.f0, .string x.f2.f1, .bool x.f2.f2.f0, .string x.f2.f2.f1], [.bool x.f3.f0, .string x.f3.f1, .bool x.f3.f2.f0, .string x.f3.f2.f1, .bool x.f4.f0, .string x.f4.f1, .bool x.f4.f2.f0, .string x.f4.f2.f1, .slice A15 x.f5.length c15, .slice A16 x.f6.length c16], rfl, (k26_mk w x.f2 ), ⟨[.bool x.f3.f0, .string x.f3.f1, .bool x.f3.f2.f0, .string x.f3.f2.f1], [.bool x.f4.f0, .string x.f4.f1, .bool x.f4.f2.f0, .string x.f4.f2.f1, .slice A15 x.f5.length c15, .slice A16 x.f6.length c16], rfl, (k26_mk w x.f3 ), ⟨[.bool x.f4.f0, .string x.f4.f1, .bool x.f4.f2.f0, .string x.f4.f2.f1], [.slice A15 x.f5.length c15, .slice A16 x.f6.length c16], rfl, (k26_mk w x.f4 ), ⟨[.slice A15 x.f5.length c15], [.slice A16 x.f6.length c16], rfl, ⟨A15, c15, rfl, l15, g15⟩, ⟨A16, c16, rfl, l16, g16⟩⟩⟩⟩⟩⟩⟩
def rd_T29 (xs : List S29) (i : Int) : S29 := xs.getD i.toNat z29
/-! #### struct type 60 -/
structure S60 where
 f0 : Bool
 f1 : ByteArray
def k60 : Kd S60 := Kd.iso (Kd.pair Kd.bool Kd.string) (fun x : S60 => (x.f0, x.f1))
theorem k60_open {w : World} {x : S60} {cs : List Value} (h : k60.K w x cs) : cs = [.bool x.f0, .string x.f1] := by
 obtain ⟨_, _, rfl, rfl, rfl⟩ := h
 exact rfl
theorem k60_mkM (w : World) (base : Nat) (ok : Nat → Prop) (x : S60)  : k60.M w base ok x [.bool x.f0, .string x.f1] := ⟨[.bool x.f0], [.string x.f1], rfl, rfl, rfl⟩
end Go.Proofs.YtipfmkfpaglkkaaGreatDoor.Z
