/- What digits answers. -/
import Derived.Test.YtajglnedoeboaaaDoorZ2
import Derived.Test.YtajglnedoeboaaaDoorBy
namespace Go.Proofs.YtajglnedoeboaaaDoor.Com
open Go.RowKit Go.Proofs.YtajglnedoeboaaaDoor.Z Go.Proofs.YtajglnedoeboaaaDoor.Evs Go.Proofs.YtajglnedoeboaaaDoor.By Go.Proofs.YtajglnedoeboaaaDoorW.PrintWords Go.Proofs.YtajglnedoeboaaaDoorW.PrintLast
set_option linter.unusedVariables false
set_option linter.unusedSimpArgs false

theorem lawDigits_l (l : List UInt8) (hl : l.length ≤ 140737488351232) (d : Nat) : ∀ i : Nat, i + d = l.length → Ev (fun k => laws_digits.l0 k (ofL l) (i : Int)) ((l.drop i).all dg && !l.isEmpty) := by
  have hs := ofL_size l
  induction d with
  | zero =>
    intro i h
    refine Ev.step (fun _ => by rw [laws_digits.l0]) (ev_neg (by omega) (ev_now ?_))
    rw [List.drop_of_length_le (by omega), toList_ofL]
    simp
  | succ d ih =>
    intro i h
    have hi : i < l.length := by omega
    have hc := bt_ofL l i hi
    refine Ev.step (fun _ => by rw [laws_digits.l0, hc, wrap_nat (by omega)]) (ev_pos (by omega) (ev_pos (by omega) ?_))
    rw [List.drop_eq_getElem_cons hi, List.all_cons]
    cases e : dg l[i] with
    | true =>
      have : 48 ≤ l[i].toNat ∧ l[i].toNat ≤ 57 := by simpa [dg] using e
      exact ev_neg (by omega) (ev_neg (by omega) (by simpa using ih (i + 1) (by omega)))
    | false =>
      have : ¬ (48 ≤ l[i].toNat ∧ l[i].toNat ≤ 57) := by simpa [dg] using e
      by_cases c : (l[i].toNat : Int) < 48
      · exact ev_pos c (ev_now (by simp))
      · exact ev_neg c (ev_pos (by omega) (ev_now (by simp)))
theorem lawDigits_ev (l : List UInt8) (hl : l.length ≤ 140737488351232) : Ev (fun k => laws_digits.f k (ofL l)) (l.all dg && !l.isEmpty) := lawDigits_l l hl l.length 0 (by omega)
end Go.Proofs.YtajglnedoeboaaaDoor.Com
