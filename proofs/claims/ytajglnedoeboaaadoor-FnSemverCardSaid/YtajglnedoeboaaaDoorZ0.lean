-- Written by a program of this session (myprint.py).
import Derived.Test.YtajglnedoeboaaaDoorProg
import Derived.Test.YtajglnedoeboaaaDoorGw
import Derived.Below
import Derived.Deep.Draws
import Derived.Deep.AppendLies
import Derived.Maps.AppendAt
import Derived.OwnWalk
import Derived.Laws.BytesArg
import Derived.Laws.MakeOwn
import Derived.Laws.OwnMore
import Derived.Deep.OwnRows
import Derived.Tactics
import Derived.Lib.ConvBytes
import Derived.Laws.Slices
import Derived.WalkKit
import Derived.KernelRfl
import Derived.RowKit3
import Derived.Deep.LoopGhost
import Derived.Deep.QuietTactic
import Derived.BigQuiet
import Derived.WideLaws
import Derived.Deep.DeepCutAuto
import Derived.Deep.CutBlock
import Derived.Deep.RegionHeld3
import Derived.Laws.Rows
import Derived.Lib.AppendStr
import Derived.ArgAppend
import Derived.Laws.IdiomCopy
import Derived.OrdersHeld
import Derived.Laws.BitsLemmas
import Derived.RowKit
import Derived.Test.YtajglnedoeboaaaDoorWW
import Derived.Test.YtajglnedoeboaaaDoorGe
namespace Go.Proofs.YtajglnedoeboaaaDoor.Z
open Go.Proofs.YtajglnedoeboaaaDoor.Gw
open Go.RowKit Go.Proofs.YtajglnedoeboaaaDoorW.PrintWords Go.Proofs.YtajglnedoeboaaaDoorW.PrintLast Go.Proofs.YtajglnedoeboaaaDoorW.PrintMore
attribute [local go_sem high] Go.Proofs.YtajglnedoeboaaaDoor.Ge.gtr_str
attribute [local go_sem] max2_int min2_int max_two min_two max_three min_three max_four min_four   -- for this text's walks alone
set_option linter.unusedVariables false
set_option linter.unusedSimpArgs false



def errW : Option Int → Value
 | none => .nilIface
 | some c => .iface 0 (.int .i64 c)
theorem errW_none : errW none = .nilIface := rfl
theorem errW_some (c : Int) : errW (some c) = .iface 0 (.int .i64 c) := rfl

theorem info5 : (Tryd.prog.info? 5).map (fun i => (i.zero, i.size, i.bytes)) = some (some (.int .u8 0), 1, 1) := by kernel_rfl
theorem info9 : (Tryd.prog.info? 9).map (fun i => (i.zero, i.size, i.bytes)) = some (some (.string ⟨#[]⟩), 1, 16) := by kernel_rfl
theorem info32 : (Tryd.prog.info? 32).map (fun i => (i.zero, i.size, i.bytes)) = some (some (.agg #[(.bool false), (.slice none 0 0), (.string ⟨#[]⟩), (.string ⟨#[]⟩)]), 4, 64) := by kernel_rfl
theorem info77 : (Tryd.prog.info? 77).map (fun i => (i.zero, i.size, i.bytes)) = some (some (.agg #[(.bool false), (.string ⟨#[]⟩)]), 2, 24) := by kernel_rfl
-- the values' own types
/-! #### struct type 28 -/
structure S28 where
 f0 : Bool
 f1 : ByteArray
def z28 : S28 := ⟨false, (⟨#[]⟩ : ByteArray)⟩
def k28 : Kd S28 := Kd.iso (Kd.pair Kd.bool Kd.string) (fun x : S28 => (x.f0, x.f1))
theorem k28_open {w : World} {x : S28} {cs : List Value} (h : k28.K w x cs) : cs = [.bool x.f0, .string x.f1] := by
 obtain ⟨_, _, rfl, rfl, rfl⟩ := h
 exact rfl
theorem k28_openM {w : World} {base : Nat} {ok : Nat → Prop} {x : S28} {cs : List Value} (h : k28.M w base ok x cs) : cs = [.bool x.f0, .string x.f1] := by
 obtain ⟨_, _, rfl, rfl, rfl⟩ := h
 exact rfl
theorem k28_mk (w : World) (x : S28)  : k28.K w x [.bool x.f0, .string x.f1] := ⟨[.bool x.f0], [.string x.f1], rfl, rfl, rfl⟩
theorem k28_mkM (w : World) (base : Nat) (ok : Nat → Prop) (x : S28)  : k28.M w base ok x [.bool x.f0, .string x.f1] := ⟨[.bool x.f0], [.string x.f1], rfl, rfl, rfl⟩
theorem k28_mkF (W : World) (ok : Nat → Prop) (x : S28) : Kd.FK k28 W ok x [.bool x.f0, .string x.f1] := fun W2 _ => k28_mk W2 x
def rd_T28 (xs : List S28) (i : Int) : S28 := xs.getD i.toNat z28
theorem at_T28 {w : World} {A : Option Addr} {n : Nat} {xs : List S28} (h : Kd.C k28 w A n xs) (i : Int) (h0 : 0 ≤ i) (h1 : i < n) : ∃ ad , A = some ad ∧ w.cell? (ad.add (i.toNat * 2)) = some (.bool (rd_T28 xs i).f0) ∧ w.cell? ⟨(ad.add (i.toNat * 2)).block, (ad.add (i.toNat * 2)).off + 1, none⟩ = some (.string (rd_T28 xs i).f1) := by
 obtain ⟨ad, c, e, _, hK, hc0⟩ := Kd.C_get h z28 i h0 h1
 have hc : ∀ j u, c[j]? = some u → w.cell? (ad.add (i.toNat * 2 + j)) = some u := hc0
 obtain rfl := k28_open hK
 exact ⟨ad, e, hc 0 _ rfl, by rw [← add_field _ _ 1 (by omega)]; exact hc 1 _ rfl⟩

def rd_L3 (xs : List (List S28)) (i : Int) : (List S28) := xs.getD i.toNat ([] : List S28)
theorem at_L3 {w : World} {A : Option Addr} {n : Nat} {xs : List (List S28)} (h : Kd.C (Kd.slice 28 k28) w A n xs) (i : Int) (h0 : 0 ≤ i) (h1 : i < n) : ∃ ad A0 c0, A = some ad ∧ w.cell? (ad.add i.toNat) = some (.slice A0 (rd_L3 xs i).length c0) ∧ (rd_L3 xs i).length ≤ c0 ∧ k28.C w A0 (rd_L3 xs i).length (rd_L3 xs i) := by
 obtain ⟨ad, c, e, _, hK, hc0⟩ := Kd.C_get h ([] : List S28) i h0 h1
 have hc : ∀ j u, c[j]? = some u → w.cell? (ad.add (i.toNat * 1 + j)) = some u := hc0
 obtain ⟨A0, c0, rfl, l0, g0⟩ := hK
 exact ⟨ad, A0, c0, e, by have hq := hc 0 _ rfl; rwa [Nat.mul_one, Nat.add_zero] at hq, l0, g0⟩

/-! #### struct type 32 -/
structure S32 where
 f0 : Bool
 f1 : (List S28)
 f2 : ByteArray
 f3 : ByteArray
def z32 : S32 := ⟨false, ([] : List S28), (⟨#[]⟩ : ByteArray), (⟨#[]⟩ : ByteArray)⟩
def k32 : Kd S32 := Kd.iso (Kd.pair Kd.bool (Kd.pair (Kd.slice 28 k28) (Kd.pair Kd.string Kd.string))) (fun x : S32 => (x.f0, x.f1, x.f2, x.f3))
theorem k32_open {w : World} {x : S32} {cs : List Value} (h : k32.K w x cs) : ∃ A1 c1, cs = [.bool x.f0, .slice A1 x.f1.length c1, .string x.f2, .string x.f3] ∧ x.f1.length ≤ c1 ∧ k28.C w A1 x.f1.length x.f1 := by
 obtain ⟨_, _, rfl, rfl, ⟨_, _, rfl, ⟨A1, c1, rfl, l1, g1⟩, ⟨_, _, rfl, rfl, rfl⟩⟩⟩ := h
 exact ⟨A1, c1, rfl, l1, g1⟩
theorem k32_openM {w : World} {base : Nat} {ok : Nat → Prop} {x : S32} {cs : List Value} (h : k32.M w base ok x cs) : ∃ v1, cs = [.bool x.f0, v1, .string x.f2, .string x.f3] ∧ k28.R 28 w base ok v1 x.f1 := by
 obtain ⟨_, _, rfl, rfl, ⟨_, _, rfl, ⟨v1, rfl, g1⟩, ⟨_, _, rfl, rfl, rfl⟩⟩⟩ := h
 exact ⟨v1, rfl, g1⟩
theorem k32_mk (w : World) (x : S32) {A1 : Option Addr} {c1 : Nat} (l1 : x.f1.length ≤ c1) (g1 : k28.C w A1 x.f1.length x.f1) : k32.K w x [.bool x.f0, .slice A1 x.f1.length c1, .string x.f2, .string x.f3] := ⟨[.bool x.f0], [.slice A1 x.f1.length c1, .string x.f2, .string x.f3], rfl, rfl, ⟨[.slice A1 x.f1.length c1], [.string x.f2, .string x.f3], rfl, ⟨A1, c1, rfl, l1, g1⟩, ⟨[.string x.f2], [.string x.f3], rfl, rfl, rfl⟩⟩⟩
theorem k32_mkM (w : World) (base : Nat) (ok : Nat → Prop) (x : S32) {v1 : Value} (g1 : k28.R 28 w base ok v1 x.f1) : k32.M w base ok x [.bool x.f0, v1, .string x.f2, .string x.f3] := ⟨[.bool x.f0], [v1, .string x.f2, .string x.f3], rfl, rfl, ⟨[v1], [.string x.f2, .string x.f3], rfl, ⟨v1, rfl, g1⟩, ⟨[.string x.f2], [.string x.f3], rfl, rfl, rfl⟩⟩⟩
theorem k32_openF {W : World} {ok : Nat → Prop} {x : S32} {cs : List Value} (h : Kd.FK k32 W ok x cs) : ∃ A1 c1, cs = [.bool x.f0, .slice A1 x.f1.length c1, .string x.f2, .string x.f3] ∧ x.f1.length ≤ c1 ∧ Kd.F k28 W ok A1 x.f1.length x.f1 := by
 obtain ⟨A1, c1, rfl, l1, _⟩ := k32_open (Kd.FK_now h)
 exact ⟨A1, c1, rfl, l1, (fun W' hW => by obtain ⟨A1_, c1_, he, l1_, g1_⟩ := k32_open (h W' hW); injection (Option.some.inj (show some (Value.slice A1 x.f1.length c1) = some (Value.slice A1_ x.f1.length c1_) from congrArg (fun l => l[1]?) he)) with ha_ _ _; rw [ha_]; exact g1_)⟩
theorem k32_mkF (W : World) (ok : Nat → Prop) (x : S32) {A1 : Option Addr} {c1 : Nat} (l1 : x.f1.length ≤ c1) (g1 : Kd.F k28 W ok A1 x.f1.length x.f1) : Kd.FK k32 W ok x [.bool x.f0, .slice A1 x.f1.length c1, .string x.f2, .string x.f3] := fun W2 hW => k32_mk W2 x l1 (g1 W2 hW)
def rd_T32 (xs : List S32) (i : Int) : S32 := xs.getD i.toNat z32
theorem at_T32 {w : World} {A : Option Addr} {n : Nat} {xs : List S32} (h : Kd.C k32 w A n xs) (i : Int) (h0 : 0 ≤ i) (h1 : i < n) : ∃ ad A1 c1, A = some ad ∧ w.cell? (ad.add (i.toNat * 4)) = some (.bool (rd_T32 xs i).f0) ∧ w.cell? ⟨(ad.add (i.toNat * 4)).block, (ad.add (i.toNat * 4)).off + 1, none⟩ = some (.slice A1 (rd_T32 xs i).f1.length c1) ∧ w.cell? ⟨(ad.add (i.toNat * 4)).block, (ad.add (i.toNat * 4)).off + 2, none⟩ = some (.string (rd_T32 xs i).f2) ∧ w.cell? ⟨(ad.add (i.toNat * 4)).block, (ad.add (i.toNat * 4)).off + 3, none⟩ = some (.string (rd_T32 xs i).f3) ∧ (rd_T32 xs i).f1.length ≤ c1 ∧ k28.C w A1 (rd_T32 xs i).f1.length (rd_T32 xs i).f1 := by
 obtain ⟨ad, c, e, _, hK, hc0⟩ := Kd.C_get h z32 i h0 h1
 have hc : ∀ j u, c[j]? = some u → w.cell? (ad.add (i.toNat * 4 + j)) = some u := hc0
 obtain ⟨A1, c1, rfl, l1, g1⟩ := k32_open hK
 exact ⟨ad, A1, c1, e, hc 0 _ rfl, by rw [← add_field _ _ 1 (by omega)]; exact hc 1 _ rfl, by rw [← add_field _ _ 2 (by omega)]; exact hc 2 _ rfl, by rw [← add_field _ _ 3 (by omega)]; exact hc 3 _ rfl, l1, g1⟩

/-! #### struct type 77 -/
structure S77 where
 f0 : Bool
 f1 : ByteArray
def z77 : S77 := ⟨false, (⟨#[]⟩ : ByteArray)⟩
def k77 : Kd S77 := Kd.iso (Kd.pair Kd.bool Kd.string) (fun x : S77 => (x.f0, x.f1))
theorem k77_open {w : World} {x : S77} {cs : List Value} (h : k77.K w x cs) : cs = [.bool x.f0, .string x.f1] := by
 obtain ⟨_, _, rfl, rfl, rfl⟩ := h
 exact rfl
theorem k77_openM {w : World} {base : Nat} {ok : Nat → Prop} {x : S77} {cs : List Value} (h : k77.M w base ok x cs) : cs = [.bool x.f0, .string x.f1] := by
 obtain ⟨_, _, rfl, rfl, rfl⟩ := h
 exact rfl
theorem k77_mk (w : World) (x : S77)  : k77.K w x [.bool x.f0, .string x.f1] := ⟨[.bool x.f0], [.string x.f1], rfl, rfl, rfl⟩
theorem k77_mkM (w : World) (base : Nat) (ok : Nat → Prop) (x : S77)  : k77.M w base ok x [.bool x.f0, .string x.f1] := ⟨[.bool x.f0], [.string x.f1], rfl, rfl, rfl⟩
theorem k77_mkF (W : World) (ok : Nat → Prop) (x : S77) : Kd.FK k77 W ok x [.bool x.f0, .string x.f1] := fun W2 _ => k77_mk W2 x
def rd_T77 (xs : List S77) (i : Int) : S77 := xs.getD i.toNat z77
theorem at_T77 {w : World} {A : Option Addr} {n : Nat} {xs : List S77} (h : Kd.C k77 w A n xs) (i : Int) (h0 : 0 ≤ i) (h1 : i < n) : ∃ ad , A = some ad ∧ w.cell? (ad.add (i.toNat * 2)) = some (.bool (rd_T77 xs i).f0) ∧ w.cell? ⟨(ad.add (i.toNat * 2)).block, (ad.add (i.toNat * 2)).off + 1, none⟩ = some (.string (rd_T77 xs i).f1) := by
 obtain ⟨ad, c, e, _, hK, hc0⟩ := Kd.C_get h z77 i h0 h1
 have hc : ∀ j u, c[j]? = some u → w.cell? (ad.add (i.toNat * 2 + j)) = some u := hc0
 obtain rfl := k77_open hK
 exact ⟨ad, e, hc 0 _ rfl, by rw [← add_field _ _ 1 (by omega)]; exact hc 1 _ rfl⟩

def rd_L7 (xs : List (List S77)) (i : Int) : (List S77) := xs.getD i.toNat ([] : List S77)
theorem at_L7 {w : World} {A : Option Addr} {n : Nat} {xs : List (List S77)} (h : Kd.C (Kd.slice 77 k77) w A n xs) (i : Int) (h0 : 0 ≤ i) (h1 : i < n) : ∃ ad A0 c0, A = some ad ∧ w.cell? (ad.add i.toNat) = some (.slice A0 (rd_L7 xs i).length c0) ∧ (rd_L7 xs i).length ≤ c0 ∧ k77.C w A0 (rd_L7 xs i).length (rd_L7 xs i) := by
 obtain ⟨ad, c, e, _, hK, hc0⟩ := Kd.C_get h ([] : List S77) i h0 h1
 have hc : ∀ j u, c[j]? = some u → w.cell? (ad.add (i.toNat * 1 + j)) = some u := hc0
 obtain ⟨A0, c0, rfl, l0, g0⟩ := hK
 exact ⟨ad, A0, c0, e, by have hq := hc 0 _ rfl; rwa [Nat.mul_one, Nat.add_zero] at hq, l0, g0⟩

/-! #### struct type 46 -/
structure S46 where
 f0 : Bool
 f1 : (List S77)
 f2 : ByteArray
 f3 : ByteArray
def z46 : S46 := ⟨false, ([] : List S77), (⟨#[]⟩ : ByteArray), (⟨#[]⟩ : ByteArray)⟩
def k46 : Kd S46 := Kd.iso (Kd.pair Kd.bool (Kd.pair (Kd.slice 77 k77) (Kd.pair Kd.string Kd.string))) (fun x : S46 => (x.f0, x.f1, x.f2, x.f3))
theorem k46_open {w : World} {x : S46} {cs : List Value} (h : k46.K w x cs) : ∃ A1 c1, cs = [.bool x.f0, .slice A1 x.f1.length c1, .string x.f2, .string x.f3] ∧ x.f1.length ≤ c1 ∧ k77.C w A1 x.f1.length x.f1 := by
 obtain ⟨_, _, rfl, rfl, ⟨_, _, rfl, ⟨A1, c1, rfl, l1, g1⟩, ⟨_, _, rfl, rfl, rfl⟩⟩⟩ := h
 exact ⟨A1, c1, rfl, l1, g1⟩
theorem k46_openM {w : World} {base : Nat} {ok : Nat → Prop} {x : S46} {cs : List Value} (h : k46.M w base ok x cs) : ∃ v1, cs = [.bool x.f0, v1, .string x.f2, .string x.f3] ∧ k77.R 77 w base ok v1 x.f1 := by
 obtain ⟨_, _, rfl, rfl, ⟨_, _, rfl, ⟨v1, rfl, g1⟩, ⟨_, _, rfl, rfl, rfl⟩⟩⟩ := h
 exact ⟨v1, rfl, g1⟩
theorem k46_mk (w : World) (x : S46) {A1 : Option Addr} {c1 : Nat} (l1 : x.f1.length ≤ c1) (g1 : k77.C w A1 x.f1.length x.f1) : k46.K w x [.bool x.f0, .slice A1 x.f1.length c1, .string x.f2, .string x.f3] := ⟨[.bool x.f0], [.slice A1 x.f1.length c1, .string x.f2, .string x.f3], rfl, rfl, ⟨[.slice A1 x.f1.length c1], [.string x.f2, .string x.f3], rfl, ⟨A1, c1, rfl, l1, g1⟩, ⟨[.string x.f2], [.string x.f3], rfl, rfl, rfl⟩⟩⟩
theorem k46_mkM (w : World) (base : Nat) (ok : Nat → Prop) (x : S46) {v1 : Value} (g1 : k77.R 77 w base ok v1 x.f1) : k46.M w base ok x [.bool x.f0, v1, .string x.f2, .string x.f3] := ⟨[.bool x.f0], [v1, .string x.f2, .string x.f3], rfl, rfl, ⟨[v1], [.string x.f2, .string x.f3], rfl, ⟨v1, rfl, g1⟩, ⟨[.string x.f2], [.string x.f3], rfl, rfl, rfl⟩⟩⟩
theorem k46_openF {W : World} {ok : Nat → Prop} {x : S46} {cs : List Value} (h : Kd.FK k46 W ok x cs) : ∃ A1 c1, cs = [.bool x.f0, .slice A1 x.f1.length c1, .string x.f2, .string x.f3] ∧ x.f1.length ≤ c1 ∧ Kd.F k77 W ok A1 x.f1.length x.f1 := by
 obtain ⟨A1, c1, rfl, l1, _⟩ := k46_open (Kd.FK_now h)
 exact ⟨A1, c1, rfl, l1, (fun W' hW => by obtain ⟨A1_, c1_, he, l1_, g1_⟩ := k46_open (h W' hW); injection (Option.some.inj (show some (Value.slice A1 x.f1.length c1) = some (Value.slice A1_ x.f1.length c1_) from congrArg (fun l => l[1]?) he)) with ha_ _ _; rw [ha_]; exact g1_)⟩
theorem k46_mkF (W : World) (ok : Nat → Prop) (x : S46) {A1 : Option Addr} {c1 : Nat} (l1 : x.f1.length ≤ c1) (g1 : Kd.F k77 W ok A1 x.f1.length x.f1) : Kd.FK k46 W ok x [.bool x.f0, .slice A1 x.f1.length c1, .string x.f2, .string x.f3] := fun W2 hW => k46_mk W2 x l1 (g1 W2 hW)
def rd_T46 (xs : List S46) (i : Int) : S46 := xs.getD i.toNat z46
theorem at_T46 {w : World} {A : Option Addr} {n : Nat} {xs : List S46} (h : Kd.C k46 w A n xs) (i : Int) (h0 : 0 ≤ i) (h1 : i < n) : ∃ ad A1 c1, A = some ad ∧ w.cell? (ad.add (i.toNat * 4)) = some (.bool (rd_T46 xs i).f0) ∧ w.cell? ⟨(ad.add (i.toNat * 4)).block, (ad.add (i.toNat * 4)).off + 1, none⟩ = some (.slice A1 (rd_T46 xs i).f1.length c1) ∧ w.cell? ⟨(ad.add (i.toNat * 4)).block, (ad.add (i.toNat * 4)).off + 2, none⟩ = some (.string (rd_T46 xs i).f2) ∧ w.cell? ⟨(ad.add (i.toNat * 4)).block, (ad.add (i.toNat * 4)).off + 3, none⟩ = some (.string (rd_T46 xs i).f3) ∧ (rd_T46 xs i).f1.length ≤ c1 ∧ k77.C w A1 (rd_T46 xs i).f1.length (rd_T46 xs i).f1 := by
 obtain ⟨ad, c, e, _, hK, hc0⟩ := Kd.C_get h z46 i h0 h1
 have hc : ∀ j u, c[j]? = some u → w.cell? (ad.add (i.toNat * 4 + j)) = some u := hc0
 obtain ⟨A1, c1, rfl, l1, g1⟩ := k46_open hK
 exact ⟨ad, A1, c1, e, hc 0 _ rfl, by rw [← add_field _ _ 1 (by omega)]; exact hc 1 _ rfl, by rw [← add_field _ _ 2 (by omega)]; exact hc 2 _ rfl, by rw [← add_field _ _ 3 (by omega)]; exact hc 3 _ rfl, l1, g1⟩

def rd_L11 (xs : List (List ByteArray)) (i : Int) : (List ByteArray) := xs.getD i.toNat ([] : List ByteArray)
theorem at_L11 {w : World} {A : Option Addr} {n : Nat} {xs : List (List ByteArray)} (h : Kd.C (Kd.slice 9 Kd.string) w A n xs) (i : Int) (h0 : 0 ≤ i) (h1 : i < n) : ∃ ad A0 c0, A = some ad ∧ w.cell? (ad.add i.toNat) = some (.slice A0 (rd_L11 xs i).length c0) ∧ (rd_L11 xs i).length ≤ c0 ∧ Kd.string.C w A0 (rd_L11 xs i).length (rd_L11 xs i) := by
 obtain ⟨ad, c, e, _, hK, hc0⟩ := Kd.C_get h ([] : List ByteArray) i h0 h1
 have hc : ∀ j u, c[j]? = some u → w.cell? (ad.add (i.toNat * 1 + j)) = some u := hc0
 obtain ⟨A0, c0, rfl, l0, g0⟩ := hK
 exact ⟨ad, A0, c0, e, by have hq := hc 0 _ rfl; rwa [Nat.mul_one, Nat.add_zero] at hq, l0, g0⟩

end Go.Proofs.YtajglnedoeboaaaDoor.Z
