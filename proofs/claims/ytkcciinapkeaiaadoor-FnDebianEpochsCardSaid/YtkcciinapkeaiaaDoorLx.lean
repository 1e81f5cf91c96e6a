/- Orders: lists of numbers, the first that differ telling; what the laws call chained; two orders one behind the other. -/
import Derived.Lib.Bytealg
import Derived.Test.YtkcciinapkeaiaaDoorProg
namespace Go.Proofs.YtkcciinapkeaiaaDoor.Lx
open Go
set_option linter.unusedVariables false
set_option linter.unusedSimpArgs false
/-- What the laws call 'chained'. -/
def Chained (ab bc ac : Int) : Prop := (ab ≤ 0 → bc ≤ 0 → ac ≤ 0 ∧ (ac = 0 ↔ ab = 0 ∧ bc = 0)) ∧ (0 ≤ ab → 0 ≤ bc → 0 ≤ ac ∧ (ac = 0 ↔ ab = 0 ∧ bc = 0))
def NoCh (ab bc ac : Int) : Prop := ¬ (ab ≤ 0 ∧ bc ≤ 0 ∧ (0 < ac ∨ (ac = 0 ∧ (ab ≠ 0 ∨ bc ≠ 0)) ∨ (ac ≠ 0 ∧ ab = 0 ∧ bc = 0))) ∧ ¬ (0 ≤ ab ∧ 0 ≤ bc ∧ (ac < 0 ∨ (ac = 0 ∧ (ab ≠ 0 ∨ bc ≠ 0)) ∨ (ac ≠ 0 ∧ ab = 0 ∧ bc = 0)))
theorem Chained.no {ab bc ac : Int} (h : Chained ab bc ac) : NoCh ab bc ac := by
  constructor
  · rintro ⟨h1, h2, h3⟩
    obtain ⟨k1, k2⟩ := h.1 h1 h2
    omega
  · rintro ⟨h1, h2, h3⟩
    obtain ⟨k1, k2⟩ := h.2 h1 h2
    omega
theorem Chained.of {ab bc ac : Int} (h : NoCh ab bc ac) : Chained ab bc ac := by
  obtain ⟨k1, k2⟩ := h
  constructor
  · intro h1 h2
    constructor
    · omega
    · constructor
      · intro h3; omega
      · intro h3; omega
  · intro h1 h2
    constructor
    · omega
    · constructor
      · intro h3; omega
      · intro h3; omega
theorem NoCh.cases {a b c : Int} (h : NoCh a b c) : (a = 0 → (b < 0 → c < 0) ∧ (b = 0 → c = 0) ∧ (0 < b → 0 < c)) ∧ (b = 0 → (a < 0 → c < 0) ∧ (0 < a → 0 < c)) ∧ (a < 0 → b < 0 → c < 0) ∧ (0 < a → 0 < b → 0 < c) := by
  obtain ⟨h1, h2⟩ := h
  refine ⟨fun ha => ⟨fun hb => ?_, fun hb => ?_, fun hb => ?_⟩, fun hb => ⟨fun ha => ?_, fun ha => ?_⟩, fun ha hb => ?_, fun ha hb => ?_⟩ <;> omega
end Go.Proofs.YtkcciinapkeaiaaDoor.Lx
