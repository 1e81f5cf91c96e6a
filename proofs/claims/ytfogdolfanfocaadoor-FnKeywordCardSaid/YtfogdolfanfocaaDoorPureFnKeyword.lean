/- FnKeyword: for every text the package's place of a qualifier among the known ones (read from its own table) is the reference's. No condition but the law's own. -/
import Derived.Test.YtfogdolfanfocaaDoorZ3
import Derived.Test.YtfogdolfanfocaaDoorEv
import Derived.Test.YtfogdolfanfocaaDoorComS
namespace Go.Proofs.YtfogdolfanfocaaDoor.Pure
open Go.RowKit Go.Proofs.YtfogdolfanfocaaDoor.Z Go.Proofs.YtfogdolfanfocaaDoor.Gw Go.Proofs.YtfogdolfanfocaaDoor.Evs Go.Proofs.YtfogdolfanfocaaDoor.Com Go.Proofs.YtfogdolfanfocaaDoorW.PrintWords Go.Proofs.YtfogdolfanfocaaDoorW.PrintLast
set_option linter.unusedVariables false
set_option linter.unusedSimpArgs false

theorem spec_l (s : ByteArray) (d : Nat) : ∀ i : Nat, i + d = 7 → Ev (fun k => spec_Keyword.l0 k s kws (i : Int)) (kwFrom s (kws.drop i) i) := by
  have hl : (kws.length : Int) = 7 := rfl
  induction d with
  | zero =>
    intro i h
    obtain rfl : i = 7 := by omega
    have he : kwFrom s (kws.drop 7) 7 = 7 := rfl
    rw [he]
    exact Ev.step (fun _ => by rw [spec_Keyword.l0, hl]) (ev_neg (by omega) (Ev.now _))
  | succ d ih =>
    intro i h
    rw [kw_drop s i (by omega)]
    have hr : rdOf ByteArray.empty kws (i : Int) = kwAt i := by rw [rdOf_nat]; rfl
    by_cases c : (kwAt i).toList = s.toList
    · rw [if_pos (by simpa using c)]
      exact Ev.step (fun _ => by rw [spec_Keyword.l0, hl, hr]) (ev_pos (by omega) (ev_pos (by omega) (ev_pos c (Ev.now _))))
    · rw [if_neg (by simpa using c)]
      exact Ev.step (fun _ => by rw [spec_Keyword.l0, hl, hr, wrap_nat (by omega)]) (ev_pos (by omega) (ev_pos (by omega) (ev_neg c (ih (i + 1) (by omega)))))

theorem FnKeyword : laws_FnKeyword.Pure := by
  intro a ha
  refine Ev.rounds ?_
  unfold laws_FnKeyword.f
  refine ev_ite (fun _ => Ev.now _) (fun _ => ?_)
  obtain ⟨r, hr, _⟩ := short1 a
  refine Ev.bind hr ?_
  cases r with
  | false => exact ev_f (Ev.now _)
  | true =>
    refine ev_t ?_
    have hi : impl_Keyword.f a = some (kwFrom a kws 0) := rfl
    rw [hi]
    have hs : Ev (fun k => spec_Keyword.f k a) (kwFrom a kws 0) := spec_l a 7 0 (by omega)
    exact ev_some (Ev.bind hs (ev_now (by simp)))

end Go.Proofs.YtfogdolfanfocaaDoor.Pure
