/- What turned answers. -/
import Derived.Test.YtnbokeodgendkaaDoorZ9
import Derived.Test.YtnbokeodgendkaaDoorEv
namespace Go.Proofs.YtnbokeodgendkaaDoor.Com
open Go.RowKit Go.Proofs.YtnbokeodgendkaaDoor.Z Go.Proofs.YtnbokeodgendkaaDoor.Evs Go.Proofs.YtnbokeodgendkaaDoorW.PrintWords Go.Proofs.YtnbokeodgendkaaDoorW.PrintLast
set_option linter.unusedVariables false
set_option linter.unusedSimpArgs false
theorem turned1 {r b : Int} (h : b = -r) (h1 : -1 ≤ r) (h2 : r ≤ 1) : laws_turned.f r b = some true := by
  unfold laws_turned.f
  have e : wrap64 (-b) = r := by rw [wrap_in (by omega) (by omega)]; omega
  rw [e, if_pos rfl, if_pos h1, decide_eq_true h2]
end Go.Proofs.YtnbokeodgendkaaDoor.Com
