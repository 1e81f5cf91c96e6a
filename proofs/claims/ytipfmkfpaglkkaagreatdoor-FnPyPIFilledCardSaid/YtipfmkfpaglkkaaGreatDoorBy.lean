/- Texts as lists of bytes: plain Lean over ByteArray. -/
import Derived.Test.YtipfmkfpaglkkaaGreatDoorEv
namespace Go.Proofs.YtipfmkfpaglkkaaGreatDoor.By
open Go.RowKit Go.Proofs.YtipfmkfpaglkkaaGreatDoor.Evs Go.Proofs.YtipfmkfpaglkkaaGreatDoorW.PrintWords Go.Proofs.YtipfmkfpaglkkaaGreatDoorW.PrintLast
set_option linter.unusedVariables false
set_option linter.unusedSimpArgs false
/-- A list of bytes as a text, and back. -/
def ofL (l : List UInt8) : ByteArray := ⟨l.toArray⟩
def bl (s : ByteArray) : List UInt8 := s.data.toList
theorem ofL_bl (s : ByteArray) : ofL (bl s) = s := rfl
theorem ofL_size (l : List UInt8) : (ofL l).size = l.length := by simp [ofL, ByteArray.size]
theorem bl_length (s : ByteArray) : (bl s).length = s.size := Array.length_toList
theorem toList_bl (s : ByteArray) : s.toList = bl s := ByteArray.toList_eq s
theorem toList_ofL (l : List UInt8) : (ofL l).toList = l := toList_bl _
theorem ofL_extract (l : List UInt8) (a b : Nat) : (ofL l).extract a b = ofL ((l.take b).drop a) := by
  apply ByteArray.ext
  apply Array.ext'
  simp [ofL, ByteArray.data_extract, List.extract_eq_take_drop, List.drop_take]
theorem bt_ofL (l : List UInt8) (i : Nat) (h : i < l.length) : bt (ofL l) (i : Int) = ((l[i]'h).toNat : Int) := bt_nat _ i (by rw [ofL_size]; exact h)
def dg (c : UInt8) : Bool := decide (48 ≤ c.toNat ∧ c.toNat ≤ 57)
def lt (c : UInt8) : Bool := decide (97 ≤ c.toNat ∧ c.toNat ≤ 122 ∨ 65 ≤ c.toNat ∧ c.toNat ≤ 90)
end Go.Proofs.YtipfmkfpaglkkaaGreatDoor.By
