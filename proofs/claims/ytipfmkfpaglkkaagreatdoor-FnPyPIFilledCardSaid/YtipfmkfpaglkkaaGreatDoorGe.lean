/- 'a > b' of two texts, as the print spells it. -/
import Derived.Laws.Cover1
namespace Go.Proofs.YtipfmkfpaglkkaaGreatDoor.Ge
open Go
set_option linter.unusedSimpArgs false
theorem less_turned : ∀ a b : List UInt8, Op.bytesLess b a = !(Op.bytesLess a b || a == b)
  | [], [] => by simp [Op.bytesLess]
  | [], y :: b => by simp [Op.bytesLess]
  | x :: a, [] => by simp [Op.bytesLess]
  | x :: a, y :: b => by
    have ih := less_turned a b
    simp only [Op.bytesLess]
    rcases Nat.lt_trichotomy x.toNat y.toNat with h | h | h
    · have h1 : x < y := h
      have h2 : ¬ y < x := fun h' => by have h' : y.toNat < x.toNat := h'; omega
      have h3 : ¬ y = x := fun e => by subst e; omega
      simp [h1, h2, h3]
    · have e : x = y := UInt8.toNat_inj.1 h
      subst e
      have h2 : ¬ x < x := fun h' => by have h' : x.toNat < x.toNat := h'; omega
      simp [h2, ih]
    · have h1 : y < x := h
      have h2 : ¬ x < y := fun h' => by have h' : x.toNat < y.toNat := h'; omega
      have h3 : ¬ x = y := fun e => by subst e; omega
      simp [h1, h2, h3]
theorem gtr_str (t : TypeId) (a b : ByteArray) : binOp .gtr t (.string a) (.string b) = pure (.bool (Op.bytesLess b.toList a.toList)) := by
  rw [binOp_string_gtr, less_turned a.toList b.toList]
end Go.Proofs.YtipfmkfpaglkkaaGreatDoor.Ge
