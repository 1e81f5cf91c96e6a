/- Numbers in decimal and their magnitudes as bytes: plain Lean. -/
import Derived.Lib.Bytealg
import Derived.Test.YtipfmkfpaglkkaaGreatDoorBy
namespace Go.Proofs.YtipfmkfpaglkkaaGreatDoor.Bv
open Go Go.Proofs.YtipfmkfpaglkkaaGreatDoor.By
set_option linter.unusedVariables false
set_option linter.unusedSimpArgs false

/-- Bytes, the lowest first. -/
def leV : List Int → Int
  | [] => 0
  | b :: l => b + 256 * leV l
def Byt (m : List Int) : Prop := ∀ x ∈ m, 0 ≤ x ∧ x ≤ 255
theorem Byt.tail {x : Int} {m : List Int} (h : Byt (x :: m)) : Byt m := fun y hy => h y (by simp [hy])
theorem Byt.head {x : Int} {m : List Int} (h : Byt (x :: m)) : 0 ≤ x ∧ x ≤ 255 := h x (by simp)
/-- A digit's worth. -/
def dv (c : UInt8) : Int := (c.toNat : Int) - 48
/-- What digits write. -/
def decV : List UInt8 → Int
  | [] => 0
  | c :: l => dv c * 10 ^ l.length + decV l
theorem decV_snoc (c : UInt8) : ∀ (l : List UInt8), decV (l ++ [c]) = 10 * decV l + dv c
  | [] => by simp [decV]
  | x :: l => by
    rw [List.cons_append, decV, decV, decV_snoc c l, List.length_append, List.length_singleton, Int.pow_succ, Int.mul_add, ← Int.mul_assoc, Int.add_assoc, Int.mul_comm (dv x * 10 ^ l.length) 10]
theorem leV_append : ∀ (a b : List Int), leV (a ++ b) = leV a + 256 ^ a.length * leV b
  | [], b => by rw [List.nil_append, List.length_nil, Int.pow_zero, Int.one_mul, leV, Int.zero_add]
  | x :: a, b => by
    rw [List.cons_append, leV, leV_append a b, leV, List.length_cons, Int.pow_succ, Int.mul_add, ← Int.mul_assoc, Int.add_assoc, Int.mul_comm (256 ^ a.length) 256]
theorem mul_step {P x y : Int} (hP : 1 ≤ P) (h : x + 1 ≤ y) : x * P + P ≤ y * P := by
  have := Int.mul_le_mul_of_nonneg_right h (show (0 : Int) ≤ P by omega)
  rw [Int.add_mul, Int.one_mul] at this
  exact this
/-- How two numbers compare. -/
def cmpZ (a b : Int) : Int := if a < b then -1 else if b < a then 1 else 0
/-! decimal digits by their length, then by their bytes -/
end Go.Proofs.YtipfmkfpaglkkaaGreatDoor.Bv
