/- What turned and chained answer. -/
import Derived.Test.YtciojhhncfnagaaDoorZ9
import Derived.Test.YtciojhhncfnagaaDoorZ16
import Derived.Test.YtciojhhncfnagaaDoorBy
import Derived.Test.YtciojhhncfnagaaDoorLx
namespace Go.Proofs.YtciojhhncfnagaaDoor.Com
open Go.RowKit Go.Proofs.YtciojhhncfnagaaDoor.Z Go.Proofs.YtciojhhncfnagaaDoor.Evs Go.Proofs.YtciojhhncfnagaaDoor.By Go.Proofs.YtciojhhncfnagaaDoor.Lx Go.Proofs.YtciojhhncfnagaaDoorW.PrintWords Go.Proofs.YtciojhhncfnagaaDoorW.PrintLast
set_option linter.unusedVariables false
set_option linter.unusedSimpArgs false

theorem chainJ (x0 x1 x2 : Int) (h : NoCh x0 x1 x2) : Ev (fun k => laws_chained.j0 k x0 x1 x2 false) true := by
  obtain ⟨_, h2⟩ := h
  refine Ev.step (fun _ => by rw [laws_chained.j0]) (ev_f ?_)
  by_cases c0 : x0 ≥ 0
  · refine ev_pos c0 ?_
    by_cases c1 : x1 ≥ 0
    · refine ev_pos c1 (ev_neg (by omega) ?_)
      by_cases c2 : x0 = 0
      · refine ev_pos c2 (ev_neg ?_ (ev_now rfl))
        intro hh
        have : ¬ ((x2 == 0) = (x1 == 0)) := by simpa using hh
        apply this
        rw [Bool.eq_iff_iff, beq_iff_eq, beq_iff_eq]
        omega
      · refine ev_neg c2 (ev_neg ?_ (ev_now rfl))
        intro hh
        have : x2 = 0 := by simpa using hh
        omega
    · exact ev_neg c1 (ev_now rfl)
  · exact ev_neg c0 (ev_now rfl)
theorem chained_ev {ab bc ac : Int} (h : Chained ab bc ac) : Ev (fun k => laws_chained.f k ab bc ac) true := by
  have n := h.no
  have h1 := n.1
  unfold laws_chained.f
  by_cases c0 : ab ≤ 0
  · refine ev_pos c0 ?_
    by_cases c1 : bc ≤ 0
    · refine ev_pos c1 (ev_neg (by omega) ?_)
      by_cases c2 : ab = 0
      · refine ev_pos c2 ?_
        have e : ((ac == 0) != (bc == 0)) = false := by
          rw [bne_eq_false_iff_eq, Bool.eq_iff_iff, beq_iff_eq, beq_iff_eq]
          omega
        rw [e]
        exact chainJ _ _ _ n
      · refine ev_neg c2 ?_
        have e : ((ac == 0) != false) = false := by
          rw [bne_eq_false_iff_eq]
          exact beq_eq_false_iff_ne.2 (by omega)
        rw [e]
        exact chainJ _ _ _ n
    · exact ev_neg c1 (chainJ _ _ _ n)
  · exact ev_neg c0 (chainJ _ _ _ n)
theorem turned_f {r b : Int} (h : b = -r) (h1 : -1 ≤ r) (h2 : r ≤ 1) : laws_turned.f r b = some true := by
  unfold laws_turned.f
  have e : wrap64 (-b) = r := by rw [wrap_in (by omega) (by omega)]; omega
  rw [e, if_pos rfl, if_pos h1, decide_eq_true h2]
end Go.Proofs.YtciojhhncfnagaaDoor.Com
