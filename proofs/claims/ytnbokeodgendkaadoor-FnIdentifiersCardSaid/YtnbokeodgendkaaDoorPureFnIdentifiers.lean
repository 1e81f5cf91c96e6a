/- FnIdentifiers: lists of identifiers compare as SemVer 11 says. No condition beyond the row's own. -/
import Derived.Test.YtnbokeodgendkaaDoorZ10
import Derived.Test.YtnbokeodgendkaaDoorComSi
import Derived.Test.YtnbokeodgendkaaDoorComS
import Derived.Test.YtnbokeodgendkaaDoorComF
import Derived.Test.YtnbokeodgendkaaDoorComTu
namespace Go.Proofs.YtnbokeodgendkaaDoor.Pure
open Go.RowKit Go.Proofs.YtnbokeodgendkaaDoor.Z Go.Proofs.YtnbokeodgendkaaDoor.Evs Go.Proofs.YtnbokeodgendkaaDoor.By Go.Proofs.YtnbokeodgendkaaDoor.Com Go.Proofs.YtnbokeodgendkaaDoorW.PrintWords Go.Proofs.YtnbokeodgendkaaDoorW.PrintLast
set_option linter.unusedVariables false
set_option linter.unusedSimpArgs false

theorem ids_map (l : List ByteArray) : (l.map bl).map ofL = l := by
  rw [List.map_map]
  exact List.map_id l
theorem ids_fit {l : List ByteArray} (h : l.length ≤ 150 ∧ ∀ j, j < l.length → (l.getD j ByteArray.empty).size ≤ 1500) : ∀ x ∈ l, x.size ≤ 1500 := by
  intro x hx
  obtain ⟨j, hj, rfl⟩ := List.mem_iff_getElem.1 hx
  have := h.2 j hj
  rwa [List.getD_eq_getElem?_getD, List.getElem?_eq_getElem hj] at this
theorem fits_small (l : List ByteArray) (hl : l.length ≤ 9223372036854775807) : ∃ b, Ev (fun k => laws_zzFits1.f k l) b ∧ (b = true → l.length ≤ 2147483647) := by
  by_cases h : (l.length : Int) > 2147483647
  · refine ⟨false, ?_, fun h => by cases h⟩
    unfold laws_zzFits1.f
    exact ev_pos h (ev_now rfl)
  · obtain ⟨b, e⟩ := fits_ev l hl
    exact ⟨b, e, fun _ => by omega⟩
theorem ids_all {l : List ByteArray} (h : ∀ x ∈ l, x.size ≤ 1500) : allFit l = true := List.all_eq_true.2 fun x hx => decide_eq_true (Nat.le_trans (h x hx) (by omega))
/- ∀ (l0 : List ByteArray) (l1 : List ByteArray), l0.length ≤ 9223372036854775807 → l1.length ≤ 9223372036854775807 → ∃ k, laws_FnIdentifiers.f k l0 l1 = some true -/
theorem FnIdentifiers : laws_FnIdentifiers.Pure := by
  intro l0 l1 h0 h1
  refine Ev.rounds ?_
  unfold laws_FnIdentifiers.f
  have skip0 : Ev (fun k => laws_FnIdentifiers.j0 k l0 l1 true) true := Ev.step (fun _ => by rw [laws_FnIdentifiers.j0]) (ev_t (ev_now rfl))
  have skip1 : Ev (fun k => laws_FnIdentifiers.j1 k l0 l1 true) true := Ev.step (fun _ => by rw [laws_FnIdentifiers.j1]) (ev_t (ev_now rfl))
  obtain ⟨b0, e0, g0⟩ := fits_small l0 h0
  obtain ⟨b1, e1, g1⟩ := fits_small l1 h1
  have main : (l0.length ≤ 2147483647 ∧ l1.length ≤ 2147483647) → Ev (fun k => laws_FnIdentifiers.j0 k l0 l1 false) true := by
    rintro ⟨w0, w1⟩
    refine Ev.step (fun _ => by rw [laws_FnIdentifiers.j0]) (ev_f ?_)
    by_cases hb0 : (l0.length : Int) < 9223372036854775807
    · obtain ⟨c0, s0, g0⟩ := short_ev l0 hb0
      refine Ev.bind s0 ?_
      cases c0 with
      | false => exact ev_f skip1
      | true =>
        by_cases hb1 : (l1.length : Int) < 9223372036854775807
        · obtain ⟨c1, s1, g1⟩ := short_ev l1 hb1
          refine ev_t (Ev.bind s1 ?_)
          cases c1 with
          | false => exact ev_f skip1
          | true =>
            have f0 := g0 rfl
            have f1 := g1 rfl
            have z0 := ids_fit f0
            have z1 := ids_fit f1
            have k0 := ident_ev (l0.map bl) (by rw [List.length_map]; omega) (fun x hx => by
              obtain ⟨y, hy, rfl⟩ := List.mem_map.1 hx
              have := z0 y hy
              rw [bl_length]
              omega)
            have k1 := ident_ev (l1.map bl) (by rw [List.length_map]; omega) (fun x hx => by
              obtain ⟨y, hy, rfl⟩ := List.mem_map.1 hx
              have := z1 y hy
              rw [bl_length]
              omega)
            rw [ids_map] at k0 k1
            refine ev_t (Ev.bind k0 ?_)
            cases hk0 : idK (l0.map bl) with
            | false => exact ev_f skip1
            | true =>
              refine ev_t (Ev.bind k1 ?_)
              cases hk1 : idK (l1.map bl) with
              | false => exact skip1
              | true =>
                have q0 : ∀ x ∈ l0.map bl, x.length ≤ 1000000 ∧ signed x = false := fun x hx => by
                  have h2 := List.all_eq_true.1 hk0 x hx
                  obtain ⟨y, hy, rfl⟩ := List.mem_map.1 hx
                  have := z0 y hy
                  exact ⟨by rw [bl_length]; omega, by simpa using h2⟩
                have q1 : ∀ x ∈ l1.map bl, x.length ≤ 1000000 ∧ signed x = false := fun x hx => by
                  have h2 := List.all_eq_true.1 hk1 x hx
                  obtain ⟨y, hy, rfl⟩ := List.mem_map.1 hx
                  have := z1 y hy
                  exact ⟨by rw [bl_length]; omega, by simpa using h2⟩
                have hs := idents_ev (l0.map bl) (l1.map bl) (by rw [List.length_map]; omega) (by rw [List.length_map]; omega) q0 q1
                rw [ids_map, ids_map] at hs
                have i01 : impl_Identifiers.f l0 l1 = some (idsC l0 l1) := by
                  unfold impl_Identifiers.f semantic_ZZIdentifiers.f semantic_compareSemverBuildComponents.f
                  rw [ids_all z0, ids_all z1]
                  rfl
                have i10 : impl_Identifiers.f l1 l0 = some (idsC l1 l0) := by
                  unfold impl_Identifiers.f semantic_ZZIdentifiers.f semantic_compareSemverBuildComponents.f
                  rw [ids_all z0, ids_all z1]
                  rfl
                have ht := turned1 (idsC_anti l0 l1) (by have := idsC_range l0 l1; omega) (by have := idsC_range l0 l1; omega)
                refine Ev.step (fun _ => by rw [laws_FnIdentifiers.j1, i01, i10, Option.bind_some]) (ev_neg (by decide) ?_)
                refine Ev.bind hs ?_
                refine ev_pos rfl ?_
                rw [Option.bind_some, ht]
                exact ev_now rfl
        · exact absurd w1 (by omega)
    · exact absurd w0 (by omega)
  refine Ev.bind e0 ?_
  cases b0 with
  | false => exact ev_f skip0
  | true =>
    refine ev_t (Ev.bind e1 ?_)
    cases b1 with
    | false => exact skip0
    | true => exact main ⟨g0 rfl, g1 rfl⟩

end Go.Proofs.YtnbokeodgendkaaDoor.Pure
