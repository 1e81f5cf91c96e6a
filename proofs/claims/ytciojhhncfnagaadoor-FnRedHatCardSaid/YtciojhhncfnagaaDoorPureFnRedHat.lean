/- FnRedHat: for every two texts (within the law's own bounds, else the law answers true) the package compares two Red Hat versions as the reference does, by both roads, and turned arguments give the turned answer. -/
import Derived.Test.YtciojhhncfnagaaDoorZ17
import Derived.Test.YtciojhhncfnagaaDoorComS
import Derived.Test.YtciojhhncfnagaaDoorComU
import Derived.Test.YtciojhhncfnagaaDoorComQ
namespace Go.Proofs.YtciojhhncfnagaaDoor.Pure
open Go Go.RowKit Go.Proofs.YtciojhhncfnagaaDoor.Z Go.Proofs.YtciojhhncfnagaaDoor.Evs Go.Proofs.YtciojhhncfnagaaDoor.By Go.Proofs.YtciojhhncfnagaaDoor.Com Go.Proofs.YtciojhhncfnagaaDoor.Lx Go.Proofs.YtciojhhncfnagaaDoor.Rh Go.Proofs.YtciojhhncfnagaaDoor.Rk Go.Proofs.YtciojhhncfnagaaDoorW.PrintWords Go.Proofs.YtciojhhncfnagaaDoorW.PrintLast
set_option linter.unusedVariables false
set_option linter.unusedSimpArgs false

theorem known (x : ByteArray) : spec_RedHatKnown.f x = some true := by
  unfold spec_RedHatKnown.f
  rw [decide_eq_true (by omega)]

/- ∀ a0 a1, .. → ∃ k, laws_FnRedHat.f k a0 a1 = some true -/
theorem FnRedHat : laws_FnRedHat.Pure := by
  intro a0 a1 h0 h1
  refine Ev.rounds ?_
  unfold laws_FnRedHat.f
  have z0 : Ev (fun k => laws_FnRedHat.j0 k a0 a1 true) true := Ev.step (fun _ => by rw [laws_FnRedHat.j0]) (ev_t (ev_now rfl))
  have z1 : Ev (fun k => laws_FnRedHat.j1 k a0 a1 true) true := Ev.step (fun _ => by rw [laws_FnRedHat.j1]) (ev_t (ev_now rfl))
  refine ev_ite (fun _ => z0) (fun c0 => ?_)
  cases c1 : decide ((a1.size : Int) > 2147483647) with
  | true => exact z0
  | false =>
    obtain ⟨r, hr, hq⟩ := short2 a0 a1
    refine Ev.step (fun _ => by rw [laws_FnRedHat.j0, known, known]) ?_
    refine ev_f (Ev.bind hr ?_)
    cases r with
    | false => exact ev_f z1
    | true =>
      obtain ⟨s0, s1⟩ := hq rfl
      refine ev_t (ev_some (ev_t (ev_some ?_)))
      have l0 := bl_length a0
      have l1 := bl_length a1
      have e1 := specCompare_ev (bl a0) (bl a1) (by omega) (by omega)
      have e2 := rhCompare_ev (bl a0) (bl a1) (by omega) (by omega)
      have e3 := rhText_ev (bl a0) (bl a1) (by omega) (by omega)
      have e4 := rhCompare_ev (bl a1) (bl a0) (by omega) (by omega)
      have ht := turned_f (rhV_anti (bl a0) (bl a1)) (rhV_range (bl a0) (bl a1)).1 (rhV_range (bl a0) (bl a1)).2
      rw [ofL_bl, ofL_bl] at e1 e2 e3 e4
      refine Ev.step (fun _ => by rw [Bool.not_true, laws_FnRedHat.j1]) ?_
      refine ev_f (Ev.bind e1 (Ev.bind e2 (Ev.bind e3 (Ev.bind e4 ?_))))
      refine ev_pos rfl (ev_t (ev_pos rfl (ev_t (ev_t ?_))))
      rw [ht]
      exact ev_now rfl
end Go.Proofs.YtciojhhncfnagaaDoor.Pure
