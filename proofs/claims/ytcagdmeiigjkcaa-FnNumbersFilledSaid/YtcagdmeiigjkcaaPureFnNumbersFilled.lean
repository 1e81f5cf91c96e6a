/- FnNumbersFilled -/
import Derived.Test.YtcagdmeiigjkcaaZ8
import Derived.Test.YtcagdmeiigjkcaaComM
namespace Go.Proofs.Ytcagdmeiigjkcaa.Pure
open Go.RowKit Go.Proofs.Ytcagdmeiigjkcaa.Z Go.Proofs.Ytcagdmeiigjkcaa.Evs Go.Proofs.Ytcagdmeiigjkcaa.By Go.Proofs.Ytcagdmeiigjkcaa.Com Go.Proofs.YtcagdmeiigjkcaaW.PrintWords Go.Proofs.YtcagdmeiigjkcaaW.PrintLast
set_option linter.unusedVariables false
set_option linter.unusedSimpArgs false

theorem nth_zeros (l : List SI) (n : Nat) (j : Nat) : nth ((l ++ List.replicate n z0).map zvI) j = nth (l.map zvI) j := by
  rw [List.map_append, List.map_replicate, zvI_zero]
  unfold nth
  rw [List.getD_eq_getElem?_getD, List.getD_eq_getElem?_getD]
  by_cases h : j < (l.map zvI).length
  · rw [List.getElem?_append_left h]
  · rw [List.getElem?_append_right (by omega), List.getElem?_eq_none (show (l.map zvI).length ≤ j by omega)]
    by_cases h2 : j - (l.map zvI).length < n
    · rw [List.getElem?_replicate, if_pos h2]
      rfl
    · rw [List.getElem?_replicate, if_neg h2]
theorem awake : laws_numbersAwake.f = some true := by
  have g1 : GoodL [(⟨false, (⟨#[1]⟩ : ByteArray)⟩ : SI)] := ⟨by decide, fun x hx => by rw [List.mem_singleton.1 hx]; decide⟩
  have g2 : GoodL [(⟨false, (⟨#[2]⟩ : ByteArray)⟩ : SI)] := ⟨by decide, fun x hx => by rw [List.mem_singleton.1 hx]; decide⟩
  have e1 : zvI ⟨false, (⟨#[1]⟩ : ByteArray)⟩ = 1 := rfl
  have e2 : zvI ⟨false, (⟨#[2]⟩ : ByteArray)⟩ = 2 := rfl
  unfold laws_numbersAwake.f laws_one.f laws_two.f
  rw [Option.bind_some, Option.bind_some]
  have := implCmp_f _ _ g1 g2
  rw [this, Option.bind_some, List.map_cons, List.map_cons, List.map_nil, e1, e2]
  rfl
theorem filled_l (l0 l1 : List SI) (k0 : GoodL l0) (h0 : l0.length ≤ 150) (k1 : GoodL l1) (z : Nat) (hz : z ≤ 255) (d : Nat) : ∀ i : Nat, i + d = z → Ev (fun k => laws_FnNumbersFilled.l0 k l0 l1 (l0 ++ List.replicate i z0) (z : Int) (i : Int)) true := by
  induction d with
  | zero =>
    intro i h
    have kx : GoodL (l0 ++ List.replicate i z0) := ⟨by rw [List.length_append, List.length_replicate]; omega, fun x hx => by
      rcases List.mem_append.1 hx with hx | hx
      · exact k0.2 x hx
      · rw [(List.mem_replicate.1 hx).2]; decide⟩
    have s1 : cmpLists (l0.map zvI) ((l0 ++ List.replicate i z0).map zvI) = 0 := by
      rw [cmpLists_same _ _ (l0.map zvI) (l0.map zvI) (fun _ => rfl) (nth_zeros l0 i), cmpLists_self]
    have s2 : cmpLists ((l0 ++ List.replicate i z0).map zvI) (l1.map zvI) = cmpLists (l0.map zvI) (l1.map zvI) := cmpLists_same _ _ _ _ (nth_zeros l0 i) (fun _ => rfl)
    have s3 : cmpLists (l1.map zvI) ((l0 ++ List.replicate i z0).map zvI) = cmpLists (l1.map zvI) (l0.map zvI) := cmpLists_same _ _ _ _ (fun _ => rfl) (nth_zeros l0 i)
    refine Ev.step (fun _ => by rw [laws_FnNumbersFilled.l0, awake, implCmp_f _ _ k0 kx, implCmp_f _ _ kx k1, implCmp_f _ _ k0 k1, implCmp_f _ _ k1 kx, implCmp_f _ _ k1 k0, s1, s2, s3]) ?_
    refine ev_neg (by omega) ?_
    exact ev_const (by simp)
  | succ d ih =>
    intro i h
    have hlen : (l0 ++ List.replicate i z0).length = l0.length + i := by rw [List.length_append, List.length_replicate]
    have hm : ((i : Int) + 1) % 256 = ((i + 1 : Nat) : Int) := by omega
    refine Ev.step (fun _ => by rw [laws_FnNumbersFilled.l0, hm]) (ev_pos (by omega) (ev_pos (by omega) ?_))
    have e : l0 ++ List.replicate i z0 ++ [z0] = l0 ++ List.replicate (i + 1) z0 := by rw [List.append_assoc, ← List.replicate_succ']
    have := ih (i + 1) (by omega)
    rw [← e] at this
    exact this

/- ∀ (l0 : List (S28)) (l1 : List (S28)) (a2 : Int), .. → ∃ k, laws_FnNumbersFilled.f k l0 l1 a2 = some true -/
theorem FnNumbersFilled : laws_FnNumbersFilled.Pure := by
  intro l0 l1 a2 h0 h1 h2
  refine Ev.rounds ?_
  obtain ⟨z, rfl, hz⟩ : ∃ z : Nat, a2 = (z : Int) ∧ z ≤ 255 := by
    have : 0 ≤ a2 ∧ a2 ≤ 255 := by simpa [Lit.wf, IntKind.min, IntKind.max, IntKind.signed, IntKind.bits] using h2
    exact ⟨a2.toNat, by omega, by omega⟩
  unfold laws_FnNumbersFilled.f
  obtain ⟨b0, e0, s0⟩ := fits2_ev l0
  refine Ev.bind e0 ?_
  have skip : Ev (fun k => laws_FnNumbersFilled.j0 k l0 l1 (z : Int) true) true := by
    refine Ev.step (fun _ => by rw [laws_FnNumbersFilled.j0]) ?_
    exact ev_t (ev_now rfl)
  have skip1 : Ev (fun k => laws_FnNumbersFilled.j1 k l0 l1 (z : Int) true) true := by
    refine Ev.step (fun _ => by rw [laws_FnNumbersFilled.j1]) ?_
    exact ev_t (ev_now rfl)
  cases b0 with
  | false => exact ev_f skip
  | true =>
    obtain ⟨s0a, s0b⟩ := s0 rfl
    obtain ⟨b1, e1, s1⟩ := fits2_ev l1
    refine ev_t (Ev.bind e1 ?_)
    cases b1 with
    | false => exact skip
    | true =>
      obtain ⟨s1a, s1b⟩ := s1 rfl
      obtain ⟨c0, n0, g0⟩ := numbers_ev l0 s0a s0b
      refine Ev.step (fun _ => by rw [laws_FnNumbersFilled.j0]) (ev_neg (by decide) (Ev.bind n0 ?_))
      cases c0 with
      | false => exact ev_f skip1
      | true =>
        obtain ⟨c1, n1, g1⟩ := numbers_ev l1 s1a s1b
        refine ev_t (Ev.bind n1 ?_)
        cases c1 with
        | false => exact skip1
        | true =>
          have k0 : GoodL l0 := ⟨by have := (g0 rfl).1; omega, fun x hx => ((g0 rfl).2 x hx).1⟩
          have k1 : GoodL l1 := ⟨by have := (g1 rfl).1; omega, fun x hx => ((g1 rfl).2 x hx).1⟩
          have hl := (g0 rfl).1
          refine Ev.step (fun _ => by rw [laws_FnNumbersFilled.j1]) (ev_neg (by decide) (ev_pos (by simp; omega) ?_))
          have := filled_l l0 l1 k0 hl k1 z hz z 0 (by omega)
          rw [List.replicate_zero, List.append_nil] at this
          rw [List.nil_append]
          exact this

end Go.Proofs.Ytcagdmeiigjkcaa.Pure
