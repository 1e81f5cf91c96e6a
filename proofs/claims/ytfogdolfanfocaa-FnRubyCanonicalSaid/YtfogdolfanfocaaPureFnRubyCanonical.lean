/- FnRubyCanonical -/
import Derived.Test.YtfogdolfanfocaaZ10
import Derived.Test.YtfogdolfanfocaaComS
import Derived.Test.YtfogdolfanfocaaComA
import Derived.Test.YtfogdolfanfocaaComC
import Derived.Test.YtfogdolfanfocaaComD
import Derived.Test.YtfogdolfanfocaaComI
namespace Go.Proofs.Ytfogdolfanfocaa.Pure
open Go.RowKit Go.Proofs.Ytfogdolfanfocaa.Z Go.Proofs.Ytfogdolfanfocaa.Evs Go.Proofs.Ytfogdolfanfocaa.By Go.Proofs.Ytfogdolfanfocaa.Com Go.Proofs.YtfogdolfanfocaaW.PrintWords Go.Proofs.YtfogdolfanfocaaW.PrintLast
set_option linter.unusedVariables false
set_option linter.unusedSimpArgs false

theorem canon_false (l : List UInt8) : ∀ pd pd', canonL l false pd = canonL l false pd' := by
  induction l with
  | nil => intro _ _; rfl
  | cons c l ih =>
    intro pd pd'
    by_cases h : c = 46
    · subst h
      rw [canon_dot, canon_dot, ih pd pd']
    · rw [canon_one _ _ _ _ h rfl, canon_one _ _ _ _ h rfl]
theorem canon_idem (l : List UInt8) : ∀ cp pd, canonL (canonL l cp pd) cp pd = canonL l cp pd := by
  induction l with
  | nil => intro _ _; rfl
  | cons c l ih =>
    intro cp pd
    by_cases h : c = 46
    · subst h
      rw [canon_dot, canon_dot, ih]
    · cases h2 : (cp && (pd != digC c)) with
      | true =>
        rw [canon_two _ _ _ _ h h2, canon_dot, canon_one _ _ _ _ h rfl, ih]
      | false =>
        rw [canon_one _ _ _ _ h h2, canon_one _ _ _ _ h h2, ih]
theorem canon_length (l : List UInt8) : ∀ cp pd, (canonL l cp pd).length ≤ 2 * l.length := by
  induction l with
  | nil => intro _ _; simp [canonL]
  | cons c l ih =>
    intro cp pd
    by_cases h : c = 46
    · subst h
      rw [canon_dot]
      have := ih false pd
      simp only [List.length_cons]
      omega
    · have := ih true (digC c)
      cases h2 : (cp && (pd != digC c)) with
      | true =>
        rw [canon_two _ _ _ _ h h2]
        simp only [List.length_cons]
        omega
      | false =>
        rw [canon_one _ _ _ _ h h2]
        simp only [List.length_cons]
        omega
theorem canon_ascii (l : List UInt8) : (∀ c ∈ l, c.toNat < 128) → ∀ cp pd, ∀ c ∈ canonL l cp pd, c.toNat < 128 := by
  induction l with
  | nil => intro _ _ _ c hc; simp [canonL] at hc
  | cons a l ih =>
    intro ha cp pd c hc
    have h0 := ha a (by simp)
    have ih := ih (fun x hx => ha x (by simp [hx]))
    have p46 : (46 : UInt8).toNat < 128 := by decide
    by_cases h : a = 46
    · subst h
      rw [canon_dot] at hc
      rcases List.mem_cons.1 hc with rfl | hc
      · exact p46
      · exact ih _ _ c hc
    · cases h2 : (cp && (pd != digC a)) with
      | true =>
        rw [canon_two _ _ _ _ h h2] at hc
        rcases List.mem_cons.1 hc with rfl | hc
        · exact p46
        · rcases List.mem_cons.1 hc with rfl | hc
          · exact h0
          · exact ih _ _ c hc
      | false =>
        rw [canon_one _ _ _ _ h h2] at hc
        rcases List.mem_cons.1 hc with rfl | hc
        · exact h0
        · exact ih _ _ c hc
theorem c46 (c : UInt8) : (c.toNat : Int) = 46 ↔ c = 46 := ⟨fun h => UInt8.toNat_inj.1 (by have : (46 : UInt8).toNat = 46 := rfl; omega), fun h => by rw [h]; rfl⟩
/-- What stands ahead of a place. -/
def Prev (l : List UInt8) (i : Nat) (cp pd : Bool) : Prop := (i = 0 ∧ cp = false) ∨ (∃ h : i - 1 < l.length, 0 < i ∧ (l[i - 1]'h = 46 ∧ cp = false ∨ ¬ l[i - 1]'h = 46 ∧ cp = true ∧ pd = dg (l[i - 1]'h)))
theorem canon_l (l : List UInt8) (hl : l.length ≤ 100000) (d : Nat) : ∀ (i : Nat) (A : List UInt8) (cp pd : Bool), i + d = l.length → A.length ≤ 2 * i → Prev l i cp pd →
    Ev (fun k => spec_RubyCanonical.l0 k (ofL l) (numsOf A) (i : Int)) (ofL (A ++ canonL (l.drop i) cp pd)) := by
  have hs := ofL_size l
  induction d with
  | zero =>
    intro i A cp pd h ha hp
    refine Ev.step (fun _ => by rw [spec_RubyCanonical.l0]) (ev_neg (by omega) (ev_now ?_))
    rw [List.drop_of_length_le (by omega), strOf_numsOf]
    simp [canonL]
  | succ d ih =>
    intro i A cp pd h ha hp
    have hi : i < l.length := by omega
    have hc := bt_ofL l i hi
    have e : l.drop i = l[i] :: l.drop (i + 1) := List.drop_eq_getElem_cons hi
    have hn := numsOf_length A
    have hw : wrap64 ((i : Int) + 1) = ((i + 1 : Nat) : Int) := wrap_nat (by omega)
    have hd := isDigit_f l[i]
    have next1 : ∀ pd', dg l[i] = pd' → ¬ l[i] = 46 → (cp && (pd != dg l[i])) = false → Ev (fun k => spec_RubyCanonical.l0 k (ofL l) (numsOf A ++ [(l[i].toNat : Int)]) ((i + 1 : Nat) : Int)) (ofL (A ++ canonL (l.drop i) cp pd)) := by
      intro pd' hpd hne hq
      rw [numsOf_one, numsOf_append]
      refine ev_eq (ih (i + 1) (A ++ [l[i]]) true pd' (by omega) (by simp; omega) (Or.inr ⟨by simpa using hi, by omega, Or.inr ⟨by simpa using hne, rfl, by simp [hpd]⟩⟩)) ?_
      rw [e, canon_one _ _ _ _ hne hq, List.append_assoc]
      rw [← hpd]
      rfl
    rcases hp with ⟨rfl, rfl⟩ | ⟨hj, hi0, hp⟩
    · refine Ev.step (fun _ => by rw [spec_RubyCanonical.l0, hc, hw]) (ev_pos (by omega) (ev_neg (by omega) (ev_pos (by omega) (ev_pos (by omega) ?_))))
      by_cases h46 : l[0] = 46
      · rw [numsOf_one, numsOf_append]
        refine ev_eq (ih 1 (A ++ [l[0]]) false pd (by omega) (by simp; omega) (Or.inr ⟨by omega, by omega, Or.inl ⟨h46, rfl⟩⟩)) ?_
        rw [e, h46, canon_dot]
        simp
      · exact next1 _ rfl h46 rfl
    · have hb : bt (ofL l) (wrap64 ((i : Int) - 1)) = (l[i - 1].toNat : Int) := by
        rw [wrap_in (by omega) (by omega), show (i : Int) - 1 = ((i - 1 : Nat) : Int) by omega]
        exact bt_ofL l (i - 1) hj
      have hw1 : wrap64 ((i : Int) - 1) = (i : Int) - 1 := wrap_in (by omega) (by omega)
      refine Ev.step (fun _ => by rw [spec_RubyCanonical.l0, hc, hw, hb, hd, isDigit_f, Option.bind_some, Option.bind_some, Option.bind_some]) (ev_pos (by omega) (ev_pos (by omega) (ev_pos (by omega) ?_)))
      by_cases h46 : l[i] = 46
      · refine ev_pos ((c46 _).2 h46) (ev_pos (by omega) ?_)
        rw [numsOf_one, numsOf_append]
        refine ev_eq (ih (i + 1) (A ++ [l[i]]) false pd (by omega) (by simp; omega) (Or.inr ⟨by simpa using hi, by omega, Or.inl ⟨by simpa using h46, rfl⟩⟩)) ?_
        rw [e, h46, canon_dot]
        simp
      · refine ev_neg (fun hh => h46 ((c46 _).1 hh)) (ev_pos (by omega) (ev_pos (by omega) ?_))
        rcases hp with ⟨hp, rfl⟩ | ⟨hp, rfl, rfl⟩
        · refine ev_pos ((c46 _).2 hp) (ev_pos (by omega) ?_)
          exact next1 _ rfl h46 rfl
        · refine ev_neg (fun hh => hp ((c46 _).1 hh)) ?_
          cases h2 : (dg l[i] != dg l[i - 1]) with
          | true =>
            refine ev_t (ev_pos (by omega) (ev_pos (by rw [List.length_append]; simp; omega) ?_))
            have h3 : (true && (dg l[i - 1] != digC l[i])) = true := by
              rw [Bool.true_and]
              show (dg l[i - 1] != dg l[i]) = true
              rw [← h2]
              cases dg l[i] <;> cases dg l[i - 1] <;> rfl
            have h46n : [(46 : Int)] = numsOf [46] := rfl
            rw [numsOf_one, h46n, numsOf_append, numsOf_append]
            refine ev_eq (ih (i + 1) ((A ++ [46]) ++ [l[i]]) true (dg l[i]) (by omega) (by simp; omega) (Or.inr ⟨by simpa using hi, by omega, Or.inr ⟨by simpa using h46, rfl, by simp⟩⟩)) ?_
            rw [e, canon_two _ _ _ _ h46 h3, List.append_assoc, List.append_assoc]
            rfl
          | false =>
            refine ev_f (ev_pos (by omega) ?_)
            refine next1 _ rfl h46 ?_
            rw [Bool.true_and, ← h2]
            cases dg l[i] <;> cases dg l[i - 1] <;> rfl
theorem canon_ev (l : List UInt8) (hl : l.length ≤ 100000) : Ev (fun k => spec_RubyCanonical.f k (ofL l)) (ofL (canonL l false true)) := by
  have := canon_l l hl l.length 0 [] false true (by omega) (by simp) (Or.inl ⟨rfl, rfl⟩)
  exact this
theorem cutP_sizes (p : UInt8 → Bool) (l : List UInt8) : (cutP p l).length ≤ l.length + 1 ∧ ∀ x ∈ cutP p l, x.length ≤ l.length := by
  induction l with
  | nil => simp [cutP]
  | cons c l ih =>
    unfold cutP
    split
    · constructor
      · simp; omega
      · intro x hx
        rcases List.mem_cons.1 hx with rfl | hx
        · simp
        · have := ih.2 x hx
          simp; omega
    · cases e : cutP p l with
      | nil => exact absurd e (cutP_ne p l)
      | cons y r =>
        rw [e] at ih
        obtain ⟨h1, h2⟩ := ih
        constructor
        · simp at h1 ⊢; omega
        · intro x hx
          rcases List.mem_cons.1 hx with rfl | hx
          · have := h2 y (by simp)
            simp; omega
          · have := h2 x (by simp [hx])
            simp; omega
theorem known_ev (l : List UInt8) (hl : l.length ≤ 10000) : ∃ r, Ev (fun k => spec_RubyKnown.f k (ofL l)) r ∧ (r = true → ∀ c ∈ l, c.toNat < 128) := by
  obtain ⟨b, hb, ha⟩ := ascii_ev (ofL l) (by rw [ofL_size]; omega)
  cases b with
  | false =>
    refine ⟨false, ?_, by simp⟩
    unfold spec_RubyKnown.f
    exact Ev.bind hb (ev_f (ev_now rfl))
  | true =>
    have hlen := canon_length l false true
    obtain ⟨s1, s2⟩ := cutP_sizes ptB (canonL l false true)
    refine ⟨segK (cutP ptB (canonL l false true)), ?_, fun _ c hc => ?_⟩
    · unfold spec_RubyKnown.f
      refine Ev.bind hb (ev_t (Ev.bind (canon_ev l (by omega)) (Ev.bind (cut_ev _ (by omega) 29) (Ev.bind (seg_ev _ (by omega) ?_) (ev_now rfl)))))
      intro x hx
      have := s2 x hx
      omega
    · obtain ⟨j, hj, rfl⟩ := List.mem_iff_getElem.1 hc
      exact ha rfl j (by rw [ofL_size]; exact hj)
theorem impl_f (l : List UInt8) (hl : l.length ≤ 100000) (ha : ∀ c ∈ l, c.toNat < 128) : impl_RubyCanonical.f (ofL l) = some (ofL (canonL l false true)) := by
  have h1 : decide (∀ i : Nat, (h : i < (ofL l).size) → ((ofL l)[i]'h).toNat < 128) = true := decide_eq_true fun i h => by
    rw [ofL_get]
    exact ha _ (List.getElem_mem _)
  have h2 : decide ((ofL l).size ≤ 140737488351) = true := decide_eq_true (by rw [ofL_size]; omega)
  have h3 : semantic_canonicalizeRubyGemVersion.f (ofL l) = some (ofL (canonL l false true)) := by
    unfold semantic_canonicalizeRubyGemVersion.f
    rw [h1, h2]
    rfl
  unfold impl_RubyCanonical.f semantic_ZZRubyCanonical.f
  rw [h3]
  rfl

/- ∀ (a0 : ByteArray), a0.size ≤ 140737488351232 → ∃ k, laws_FnRubyCanonical.f k a0 = some true -/
theorem FnRubyCanonical : laws_FnRubyCanonical.Pure := by
  intro a0 h0
  refine Ev.rounds ?_
  rw [← ofL_bl a0]
  have hsz := bl_length a0
  generalize bl a0 = l at hsz
  unfold laws_FnRubyCanonical.f
  refine ev_ite (fun _ => ev_now rfl) fun _ => ?_
  obtain ⟨b, hb, hs⟩ := short1 (ofL l)
  refine Ev.bind hb ?_
  cases b with
  | false => exact ev_f (Ev.step (fun _ => by rw [laws_FnRubyCanonical.j0]) (ev_t (ev_now rfl)))
  | true =>
    have hl := hs rfl
    rw [ofL_size] at hl
    obtain ⟨r, hr, hk⟩ := known_ev l (by omega)
    refine ev_t (Ev.bind hr ?_)
    cases r with
    | false => exact Ev.step (fun _ => by rw [laws_FnRubyCanonical.j0]) (ev_pos (by decide) (ev_now rfl))
    | true =>
      have hlen := canon_length l false true
      have e1 := impl_f l (by omega) (hk rfl)
      have e2 := impl_f (canonL l false true) (by omega) (canon_ascii l (hk rfl) _ _)
      rw [canon_idem] at e2
      refine Ev.step (fun _ => by rw [laws_FnRubyCanonical.j0, e1, Option.bind_some, e2]) ?_
      refine ev_neg (by decide) (Ev.bind (canon_ev l (by omega)) (ev_pos rfl (ev_now (by simp))))

end Go.Proofs.Ytfogdolfanfocaa.Pure
