/- Two lists of one number each, compared by the reference; numbers that are digits alone. -/
import Derived.Test.YtciojhhncfnagaaDoorZ1
import Derived.Test.YtciojhhncfnagaaDoorZ2
import Derived.Test.YtciojhhncfnagaaDoorComV
import Derived.Test.YtciojhhncfnagaaDoorComW
namespace Go.Proofs.YtciojhhncfnagaaDoor.Com
open Go Go.RowKit Go.Proofs.YtciojhhncfnagaaDoor.Z Go.Proofs.YtciojhhncfnagaaDoor.Evs Go.Proofs.YtciojhhncfnagaaDoor.By Go.Proofs.YtciojhhncfnagaaDoor.Bv Go.Proofs.YtciojhhncfnagaaDoorW.PrintWords Go.Proofs.YtciojhhncfnagaaDoorW.PrintLast
set_option linter.unusedVariables false
set_option linter.unusedSimpArgs false

theorem one_rd (x : S26) : rd_T26 [x] 0 = x := rfl
theorem cmpOne_ev (n0 n1 : Bool) (a b : List UInt8) (ha : a.length ≤ 1000000) (hb : b.length ≤ 1000000) :
    Ev (fun k => spec_CompareNumbers.f k [(⟨n0, ofL a⟩ : S26)] [(⟨n1, ofL b⟩ : S26)]) (cmpZ (Cw.zv n0 a) (Cw.zv n1 b)) := by
  unfold spec_CompareNumbers.f
  refine Ev.step (fun _ => by rw [spec_CompareNumbers.l0]) ?_
  refine ev_pos (by show (0 : Int) < 1; decide) ?_
  refine Ev.step (fun _ => by rw [spec_CompareNumbers.j1, one_rd]) ?_
  refine ev_t (ev_pos (by show (0 : Int) < 1; decide) (ev_pos (by decide) ?_))
  refine Ev.step (fun _ => by rw [spec_CompareNumbers.j2, one_rd]) ?_
  refine ev_pos (by show (0 : Int) < 1; decide) (ev_pos (by decide) ?_)
  refine Ev.bind (Cw.intOrder_ev n0 n1 a b (by omega) (by omega)) ?_
  refine ev_ite (fun h => ?_) (fun h => ev_now rfl)
  rw [h, show wrap64 ((0 : Int) + 1) = 1 from wrap_in (by decide) (by decide)]
  refine Ev.step (fun _ => by rw [spec_CompareNumbers.l0]) ?_
  refine ev_neg (by show ¬ (1 : Int) < 1; decide) ?_
  rw [show decide ((1 : Int) < (([(⟨n1, ofL b⟩ : S26)] : List S26).length : Int)) = false from decide_eq_false (by show ¬ (1 : Int) < 1; decide)]
  refine Ev.step (fun _ => by rw [spec_CompareNumbers.j1]) ?_
  exact ev_f (ev_now rfl)
/-- Digits alone are a number without a sign. -/
theorem numS_digits (l : List UInt8) (h : l.all dg = true) (hn : l ≠ []) : numS l = (false, magB l, true) := by
  have hs : sgn l = (false, l) := by
    cases l with
    | nil => exact absurd rfl hn
    | cons c r =>
      simp only [List.all_cons, Bool.and_eq_true] at h
      have h1 : ¬ c = 43 := fun e => by rw [e] at h; exact absurd h.1 (by decide)
      have h2 : ¬ c = 45 := fun e => by rw [e] at h; exact absurd h.1 (by decide)
      exact (if_neg h1).trans (if_neg h2)
  have hl : 0 < l.length := by
    cases l with
    | nil => exact absurd rfl hn
    | cons c r => simp
  rw [numS, hs]
  show (if allD l then _ else _) = _
  rw [allD, h, decide_eq_true hl]
  rfl
theorem zv_mag (l : List UInt8) (h : l.all dg = true) : Cw.zv false (magB l) = decV l := by
  rw [Cw.zv, if_neg (by decide), magB_val l h]
end Go.Proofs.YtciojhhncfnagaaDoor.Com
