/- Where a byte stands first: indexOf. -/
import Derived.Test.YtciojhhncfnagaaDoorZ15
import Derived.Test.YtciojhhncfnagaaDoorBy
namespace Go.Proofs.YtciojhhncfnagaaDoor.Com
open Go.RowKit Go.Proofs.YtciojhhncfnagaaDoor.Z Go.Proofs.YtciojhhncfnagaaDoor.Evs Go.Proofs.YtciojhhncfnagaaDoor.By Go.Proofs.YtciojhhncfnagaaDoorW.PrintWords Go.Proofs.YtciojhhncfnagaaDoorW.PrintLast
set_option linter.unusedVariables false
set_option linter.unusedSimpArgs false

/-- The place of the first byte of a sort; -1 without one. -/
def idxI (c : UInt8) (l : List UInt8) : Int := if (l.dropWhile (· != c)) = [] then -1 else ((l.takeWhile (· != c)).length : Int)
theorem byte_eq (a c : UInt8) : ((a.toNat : Int) = (c.toNat : Int)) ↔ a = c := ⟨fun h => UInt8.toNat_inj.1 (by omega), fun h => by rw [h]⟩
theorem idx_split (c : UInt8) (l : List UInt8) : ∀ i : Nat, (∀ x ∈ l.take i, (x != c) = true) → l.takeWhile (· != c) = l.take i ++ (l.drop i).takeWhile (· != c) ∧ l.dropWhile (· != c) = (l.drop i).dropWhile (· != c) := by
  intro i h
  have e := List.take_append_drop i l
  constructor
  · conv => lhs; rw [← e]
    exact List.takeWhile_append_of_pos h
  · conv => lhs; rw [← e]
    exact List.dropWhile_append_of_pos h
theorem index_l (c : UInt8) (l : List UInt8) (hl : l.length ≤ 140737488351232) (d : Nat) : ∀ i : Nat, i + d = l.length → (∀ x ∈ l.take i, (x != c) = true) → Ev (fun k => spec_indexOf.l0 k (ofL l) (c.toNat : Int) (i : Int)) (idxI c l) := by
  have hs := ofL_size l
  induction d with
  | zero =>
    intro i h hp
    refine Ev.step (fun _ => by rw [spec_indexOf.l0]) (ev_neg (by omega) (ev_now ?_))
    have := (idx_split c l i hp).2
    rw [List.drop_of_length_le (by omega)] at this
    rw [idxI, if_pos (show List.dropWhile (fun x => x != c) l = [] from this)]
  | succ d ih =>
    intro i h hp
    have hi : i < l.length := by omega
    have hc := bt_ofL l i hi
    refine Ev.step (fun _ => by rw [spec_indexOf.l0, hc, wrap_nat (by omega)]) (ev_pos (by omega) (ev_pos (by omega) ?_))
    by_cases e : l[i]'hi = c
    · refine ev_pos ((byte_eq _ _).2 e) (ev_now ?_)
      have h1 := idx_split c l i hp
      rw [List.drop_eq_getElem_cons hi, List.dropWhile_cons, List.takeWhile_cons, if_neg (by simp [e]), if_neg (by simp [e])] at h1
      have h2 : ¬ List.dropWhile (fun x => x != c) l = [] := fun hh => by
        have := h1.2.symm.trans hh
        cases this
      rw [idxI, if_neg h2, h1.1, List.append_nil, List.length_take]
      omega
    · refine ev_neg (fun h => e ((byte_eq _ _).1 h)) (ih (i + 1) (by omega) (fun x hx => ?_))
      rw [List.take_succ_eq_append_getElem hi, List.mem_append] at hx
      rcases hx with hx | hx
      · exact hp x hx
      · simp at hx
        subst hx
        simpa using e
theorem index_ev (c : UInt8) (l : List UInt8) (hl : l.length ≤ 140737488351232) : Ev (fun k => spec_indexOf.f k (ofL l) (c.toNat : Int)) (idxI c l) := index_l c l hl l.length 0 (by omega) (by simp)
end Go.Proofs.YtciojhhncfnagaaDoor.Com
