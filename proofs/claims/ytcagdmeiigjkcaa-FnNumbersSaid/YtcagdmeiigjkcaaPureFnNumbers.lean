/- FnNumbers -/
import Derived.Test.YtcagdmeiigjkcaaZ7
import Derived.Test.YtcagdmeiigjkcaaComM
namespace Go.Proofs.Ytcagdmeiigjkcaa.Pure
open Go.RowKit Go.Proofs.Ytcagdmeiigjkcaa.Z Go.Proofs.Ytcagdmeiigjkcaa.Evs Go.Proofs.Ytcagdmeiigjkcaa.By Go.Proofs.Ytcagdmeiigjkcaa.Com Go.Proofs.YtcagdmeiigjkcaaW.PrintWords Go.Proofs.YtcagdmeiigjkcaaW.PrintLast
set_option linter.unusedVariables false
set_option linter.unusedSimpArgs false

/- ∀ (l0 : List (S28)) (l1 : List (S28)), l0.length ≤ 9223372036854775807 → l1.length ≤ 9223372036854775807 → ∃ k, laws_FnNumbers.f k l0 l1 = some true -/
theorem FnNumbers : laws_FnNumbers.Pure := by
  intro l0 l1 h0 h1
  refine Ev.rounds ?_
  unfold laws_FnNumbers.f
  obtain ⟨b0, e0, s0⟩ := fits2_ev l0
  refine Ev.bind e0 ?_
  have skip : Ev (fun k => laws_FnNumbers.j0 k l0 l1 true) true := by
    refine Ev.step (fun _ => by rw [laws_FnNumbers.j0]) ?_
    exact ev_t (ev_now rfl)
  have skip1 : Ev (fun k => laws_FnNumbers.j1 k l0 l1 true) true := by
    refine Ev.step (fun _ => by rw [laws_FnNumbers.j1]) ?_
    exact ev_t (ev_now rfl)
  cases b0 with
  | false => exact ev_f skip
  | true =>
    obtain ⟨s0a, s0b⟩ := s0 rfl
    obtain ⟨b1, e1, s1⟩ := fits2_ev l1
    refine ev_t (Ev.bind e1 ?_)
    cases b1 with
    | false => exact skip
    | true =>
      obtain ⟨s1a, s1b⟩ := s1 rfl
      obtain ⟨c0, n0, g0⟩ := numbers_ev l0 s0a s0b
      refine Ev.step (fun _ => by rw [laws_FnNumbers.j0]) (ev_neg (by decide) (Ev.bind n0 ?_))
      cases c0 with
      | false => exact ev_f skip1
      | true =>
        obtain ⟨c1, n1, g1⟩ := numbers_ev l1 s1a s1b
        refine ev_t (Ev.bind n1 ?_)
        cases c1 with
        | false => exact skip1
        | true =>
          have k0 : GoodL l0 := ⟨by have := (g0 rfl).1; omega, fun x hx => ((g0 rfl).2 x hx).1⟩
          have k1 : GoodL l1 := ⟨by have := (g1 rfl).1; omega, fun x hx => ((g1 rfl).2 x hx).1⟩
          refine Ev.step (fun _ => by rw [laws_FnNumbers.j1, implCmp_f l0 l1 k0 k1, implCmp_f l1 l0 k1 k0, Option.bind_some]) (ev_neg (by decide) (Ev.bind (cmp_ev l0 l1 k0 k1) (ev_pos rfl ?_)))
          rw [Option.bind_some, turned_f]
          exact ev_now rfl

end Go.Proofs.Ytcagdmeiigjkcaa.Pure
