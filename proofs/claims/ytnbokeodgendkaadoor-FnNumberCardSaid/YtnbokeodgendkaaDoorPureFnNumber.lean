/- FnNumber: impl.Number reads a text as the reference does. No condition beyond the row's own. -/
import Derived.Test.YtnbokeodgendkaaDoorZ5
import Derived.Test.YtnbokeodgendkaaDoorComNc
import Derived.Test.YtnbokeodgendkaaDoorComS
namespace Go.Proofs.YtnbokeodgendkaaDoor.Pure
open Go.RowKit Go.Proofs.YtnbokeodgendkaaDoor.Z Go.Proofs.YtnbokeodgendkaaDoor.Evs Go.Proofs.YtnbokeodgendkaaDoor.By Go.Proofs.YtnbokeodgendkaaDoor.Com Go.Proofs.YtnbokeodgendkaaDoorW.PrintWords Go.Proofs.YtnbokeodgendkaaDoorW.PrintLast
set_option linter.unusedVariables false
set_option linter.unusedSimpArgs false

/- ∀ (a0 : ByteArray), a0.size ≤ 140737488351232 → ∃ k, laws_FnNumber.f k a0 = some true -/
theorem FnNumber : laws_FnNumber.Pure := by
  intro a0 h0
  refine Ev.rounds ?_
  unfold laws_FnNumber.f
  refine ev_ite (fun _ => ev_now rfl) (fun _ => ?_)
  have skip : Ev (fun k => laws_FnNumber.j0 k a0 true) true := Ev.step (fun _ => by rw [laws_FnNumber.j0]) (ev_t (ev_now rfl))
  obtain ⟨b, e, s⟩ := short1 a0
  refine Ev.bind e ?_
  cases b with
  | false => exact ev_f skip
  | true =>
    have hl := s rfl
    have hb : ofL (bl a0) = a0 := ofL_bl a0
    have hn := number_same (bl a0) (by rw [bl_length]; omega)
    have hs := number_ev (bl a0) (by rw [bl_length]; omega)
    rw [hb] at hn hs
    have hk : spec_NumberKnown.f a0 = some true := by
      unfold spec_NumberKnown.f
      rw [decide_eq_true (by omega)]
    refine ev_t ?_
    rw [hk]
    refine ev_some ?_
    refine Ev.step (fun _ => by rw [laws_FnNumber.j0, hn, Option.bind_some]) (ev_neg (by decide) ?_)
    refine Ev.bind hs (ev_pos (by simp) (ev_now (by simp)))

end Go.Proofs.YtnbokeodgendkaaDoor.Pure
