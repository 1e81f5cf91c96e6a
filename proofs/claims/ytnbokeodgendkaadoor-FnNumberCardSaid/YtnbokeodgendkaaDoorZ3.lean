-- Written by a program of this session (myprint.py).
import Derived.Test.YtnbokeodgendkaaDoorZ0
import Derived.Test.YtnbokeodgendkaaDoorSsG
import Derived.Test.YtnbokeodgendkaaDoorGe
namespace Go.Proofs.YtnbokeodgendkaaDoor.Z
open Go.Proofs.YtnbokeodgendkaaDoor.Gw
open Go.RowKit Go.Proofs.YtnbokeodgendkaaDoorW.PrintWords Go.Proofs.YtnbokeodgendkaaDoorW.PrintLast Go.Proofs.YtnbokeodgendkaaDoorW.PrintMore
attribute [local go_sem high] Go.Proofs.YtnbokeodgendkaaDoor.Ge.gtr_str
attribute [local go_sem] max2_int min2_int max_two min_two max_three min_three max_four min_four   -- for this text's walks alone
set_option linter.unusedVariables false
set_option linter.unusedSimpArgs false

-- PLUGGED impl_Number: function 9 (a text of this session)
def impl_Number.f (a0 : ByteArray) : Option (Bool × ByteArray × Bool) := if a0.size ≤ 1000000 then some (match Ss.cvt a0 with | none => (false, ⟨#[]⟩, false) | some z => (decide (z < 0), Ss.plainS z, true)) else none
theorem impl_Number.calls (a0 : ByteArray) (r1 : Bool) (r2 : ByteArray) (r3 : Bool) (w : World) (hG : GW w) (h : impl_Number.f a0 = some (r1, r2, r3)) :
    Calls Tryd.prog 9 #[.string a0] w fun e w' => e = .returned (.tuple #[.agg #[.bool r1, .string r2], .bool r3]) ∧ Below w.heap.size w w' := by
  unfold impl_Number.f at h
  split at h
  · rename_i hs
    refine (Ss.ss_Number a0 w hs hG).mono ?_
    rintro e w' ⟨hB, ⟨hn, rfl⟩ | ⟨z, hz, rfl⟩⟩
    · rw [hn] at h
      simp only [Option.some.injEq, Prod.mk.injEq] at h
      obtain ⟨rfl, rfl, rfl⟩ := h
      exact ⟨rfl, hB⟩
    · rw [hz] at h
      simp only [Option.some.injEq, Prod.mk.injEq] at h
      obtain ⟨rfl, rfl, rfl⟩ := h
      exact ⟨rfl, hB⟩
  · cases h

end Go.Proofs.YtnbokeodgendkaaDoor.Z
