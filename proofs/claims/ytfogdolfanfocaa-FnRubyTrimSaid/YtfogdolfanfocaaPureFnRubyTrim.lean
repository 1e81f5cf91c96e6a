/- FnRubyTrim: for every list of texts (within the law's own bounds, else the law answers true) the package drops just the trailing segments "0", as the reference does, and what it gives back is the list's own beginning. -/
import Derived.Test.YtfogdolfanfocaaZ2
import Derived.Test.YtfogdolfanfocaaEv
namespace Go.Proofs.Ytfogdolfanfocaa.Pure
open Go.RowKit Go.Proofs.Ytfogdolfanfocaa.Z Go.Proofs.Ytfogdolfanfocaa.Evs Go.Proofs.YtfogdolfanfocaaW.PrintWords Go.Proofs.YtfogdolfanfocaaW.PrintLast
set_option linter.unusedVariables false
set_option linter.unusedSimpArgs false

theorem fits_l (l : List ByteArray) (hl : (l.length : Int) < 9223372036854775807) (d : Nat) : ∀ i : Nat, i + d = l.length → ∃ b, Ev (fun k => laws_zzFits1.l0 k l (l.length : Int) (i : Int)) b := by
  induction d with
  | zero =>
    intro i h
    refine ⟨true, Ev.step (fun _ => by rw [laws_zzFits1.l0]) (ev_neg (by omega) (Ev.now _))⟩
  | succ d ih =>
    intro i h
    obtain ⟨b, hb⟩ := ih (i + 1) (by omega)
    by_cases c : ((rdOf ByteArray.empty l (i : Int)).size : Int) > 2147483647
    · exact ⟨false, Ev.step (fun _ => by rw [laws_zzFits1.l0]) (ev_pos (by omega) (ev_pos (by omega) (ev_pos (by omega) (ev_pos c (Ev.now _)))))⟩
    · exact ⟨b, Ev.step (fun _ => by rw [laws_zzFits1.l0, wrap_nat (by omega)]) (ev_pos (by omega) (ev_pos (by omega) (ev_pos (by omega) (ev_neg c hb))))⟩
theorem fits_ev (l : List ByteArray) (hl : l.length ≤ 9223372036854775807) : ∃ b, Ev (fun k => laws_zzFits1.f k l) b := by
  unfold laws_zzFits1.f
  by_cases c : (l.length : Int) > 2147483647
  · exact ⟨_, ev_pos c (Ev.now _)⟩
  · obtain ⟨b, hb⟩ := fits_l l (by omega) l.length 0 (by omega)
    exact ⟨b, ev_neg c hb⟩
/-- short: an answer; where it is true the list is short and its texts are. -/
theorem short_l (l : List ByteArray) (hl : (l.length : Int) < 9223372036854775807) (d : Nat) : ∀ i : Nat, i + d = l.length →
    ∃ b, Ev (fun k => laws_short.l0 k l l (l.length : Int) (i : Int)) b ∧ (b = true → l.length ≤ 150 ∧ ∀ j, i ≤ j → j < l.length → (l.getD j ByteArray.empty).size ≤ 1500) := by
  induction d with
  | zero =>
    intro i h
    exact ⟨_, Ev.step (fun _ => by rw [laws_short.l0]) (ev_neg (by omega) (Ev.now _)), fun hb => ⟨by simp at hb; omega, fun j h1 h2 => by omega⟩⟩
  | succ d ih =>
    intro i h
    obtain ⟨b, hb, hq⟩ := ih (i + 1) (by omega)
    by_cases c : ((rdOf ByteArray.empty l (i : Int)).size : Int) > 1500
    · exact ⟨false, Ev.step (fun _ => by rw [laws_short.l0]) (ev_pos (by omega) (ev_pos (by omega) (ev_pos (by omega) (ev_pos c (Ev.now _))))), fun h => by cases h⟩
    · refine ⟨b, Ev.step (fun _ => by rw [laws_short.l0, wrap_nat (by omega)]) (ev_pos (by omega) (ev_pos (by omega) (ev_pos (by omega) (ev_neg c hb)))), fun h => ⟨(hq h).1, fun j h1 h2 => ?_⟩⟩
      by_cases e : j = i
      · subst e; rw [rdOf_nat] at c; omega
      · exact (hq h).2 j (by omega) h2
theorem short_ev (l : List ByteArray) (hl : (l.length : Int) < 9223372036854775807) : ∃ b, Ev (fun k => laws_short.f k l) b ∧ (b = true → l.length ≤ 150 ∧ ∀ j, j < l.length → (l.getD j ByteArray.empty).size ≤ 1500) := by
  obtain ⟨b, hb, hq⟩ := short_l l hl l.length 0 (by omega)
  exact ⟨b, hb, fun h => ⟨(hq h).1, fun j hj => (hq h).2 j (by omega) hj⟩⟩

/-- How many segments stay. -/
def tz (l : List ByteArray) : Nat → Nat
  | 0 => 0
  | n + 1 => if (l.getD n ByteArray.empty).toList = ([48] : List UInt8) then tz l n else n + 1
theorem tz_le (l : List ByteArray) : ∀ n, tz l n ≤ n
  | 0 => Nat.le_refl _
  | n + 1 => by
    unfold tz
    split
    · exact Nat.le_succ_of_le (tz_le l n)
    · exact Nat.le_refl _
theorem zeros_l (l : List ByteArray) (hl : l.length ≤ 150) : ∀ n : Nat, n ≤ l.length → Ev (fun k => semantic_removeZeros.l0 k l ((n : Int) - 1)) (l.take (tz l n))
  | 0, _ => by
    have h : ((0 : Nat) : Int) - 1 = -1 := by omega
    have hm : mx (-1 : Int) 0 = 0 := by unfold mx; simp
    rw [h]
    refine Ev.step (fun _ => by rw [semantic_removeZeros.l0, hm]) (ev_neg (by omega) (ev_pos (by omega) (ev_pos (by omega) (ev_now ?_))))
    rfl
  | n + 1, hn => by
    have h : ((n + 1 : Nat) : Int) - 1 = (n : Int) := by omega
    have hw : wrap64 ((n : Int) + 1) = ((n + 1 : Nat) : Int) := wrap_nat (by omega)
    have hw2 : wrap64 ((n : Int) - 1) = (n : Int) - 1 := wrap_in (by omega) (by omega)
    have hm : mx ((n + 1 : Nat) : Int) 0 = ((n + 1 : Nat) : Int) := by unfold mx; rw [if_neg (by omega)]
    rw [h]
    unfold tz
    by_cases c : (l.getD n ByteArray.empty).toList = ([48] : List UInt8)
    · rw [if_pos c]
      exact Ev.step (fun _ => by rw [semantic_removeZeros.l0, rdOf_nat, hw2]) (ev_pos (by omega) (ev_pos (by omega) (ev_pos (by omega) (ev_pos c (zeros_l l hl n (by omega))))))
    · rw [if_neg c]
      refine Ev.step (fun _ => by rw [semantic_removeZeros.l0, rdOf_nat, hw, hm]) (ev_pos (by omega) (ev_pos (by omega) (ev_pos (by omega) (ev_neg c (ev_pos (by omega) (ev_pos (by omega) (ev_now ?_)))))))
      rfl
theorem zeros_f (l : List ByteArray) (hl : l.length ≤ 150) : Ev (fun k => semantic_removeZeros.f k l) (l.take (tz l l.length)) := by
  unfold semantic_removeZeros.f
  rw [wrap_in (by omega) (by omega)]
  exact zeros_l l hl l.length (Nat.le_refl _)
theorem impl_trim (l : List ByteArray) (hl : l.length ≤ 150) : Ev (fun k => impl_RubyTrim.f k l) (l.take (tz l l.length)) := by
  unfold impl_RubyTrim.f
  refine ev_pos (by simp; omega) ?_
  unfold semantic_ZZRubyTrim.f
  simp only [List.nil_append]
  refine Ev.bind (Ev.bind (zeros_f l hl) (Ev.now _)) (ev_pos (by simp; omega) (Ev.now _))
theorem spec_l (l : List ByteArray) (hl : l.length ≤ 150) : ∀ n : Nat, n ≤ l.length → Ev (fun k => spec_RubyTrim.l0 k l (n : Int)) (l.take (tz l n))
  | 0, _ => by
    refine Ev.step (fun _ => by rw [spec_RubyTrim.l0]) (ev_neg (by omega) (ev_pos (by omega) (ev_pos (by omega) (ev_pos (by simp) (ev_now ?_)))))
    rfl
  | n + 1, hn => by
    have hw2 : wrap64 (((n + 1 : Nat) : Int) - 1) = (n : Int) := (wrap_in (by omega) (by omega)).trans (by omega)
    unfold tz
    by_cases c : (l.getD n ByteArray.empty).toList = ([48] : List UInt8)
    · rw [if_pos c]
      exact Ev.step (fun _ => by rw [spec_RubyTrim.l0, hw2, rdOf_nat]) (ev_pos (by omega) (ev_pos (by omega) (ev_pos (by omega) (ev_pos c (spec_l l hl n (by omega))))))
    · rw [if_neg c]
      refine Ev.step (fun _ => by rw [spec_RubyTrim.l0, hw2, rdOf_nat]) (ev_pos (by omega) (ev_pos (by omega) (ev_pos (by omega) (ev_neg c (ev_pos (by omega) (ev_pos (by omega) (ev_pos (by simp; omega) (ev_now ?_))))))))
      rfl
theorem texts_same (l : List ByteArray) (hl : l.length ≤ 150) (d : Nat) : ∀ i : Nat, i + d = l.length → Ev (fun k => laws_texts.l0 k l l (l.length : Int) (i : Int)) true := by
  induction d with
  | zero =>
    intro i h
    exact Ev.step (fun _ => by rw [laws_texts.l0]) (ev_neg (by omega) (Ev.now _))
  | succ d ih =>
    intro i h
    exact Ev.step (fun _ => by rw [laws_texts.l0, wrap_nat (by omega)]) (ev_pos (by omega) (ev_pos (by omega) (ev_pos (by omega) (ev_pos (by omega) (ev_pos rfl (ih (i + 1) (by omega)))))))
theorem texts_f (l : List ByteArray) (hl : l.length ≤ 150) : Ev (fun k => laws_texts.f k l l) true := by
  unfold laws_texts.f
  exact ev_pos rfl (texts_same l hl l.length 0 (by omega))

/- ∀ (l0 : List ByteArray), l0.length ≤ 9223372036854775807 → ∃ k, laws_FnRubyTrim.f k l0 = some true -/
theorem FnRubyTrim : laws_FnRubyTrim.Pure := by
  intro l hl
  refine Ev.rounds ?_
  unfold laws_FnRubyTrim.f
  obtain ⟨b, hb⟩ := fits_ev l hl
  refine Ev.bind hb ?_
  cases b with
  | false => exact ev_f (Ev.now _)
  | true =>
    refine ev_t ?_
    have hl' : l.length < 9223372036854775807 := by
      by_cases e : l.length = 9223372036854775807
      · obtain ⟨k, hk⟩ := hb.rounds
        unfold laws_zzFits1.f at hk
        rw [if_pos (by omega)] at hk
        cases hk
      · omega
    obtain ⟨b, hb, hq⟩ := short_ev l (by omega)
    refine Ev.bind hb ?_
    cases b with
    | false => exact ev_f (Ev.now _)
    | true =>
      refine ev_t ?_
      have h := (hq rfl).1
      have ht := tz_le l l.length
      have hlen : (l.take (tz l l.length)).length = tz l l.length := by rw [List.length_take]; omega
      refine Ev.bind (impl_trim l h) (Ev.bind (spec_l l h l.length (Nat.le_refl _)) (Ev.bind (texts_f _ (by omega)) (ev_t (ev_pos (by omega) (ev_pos (by omega) ?_)))))
      rw [hlen]
      exact Ev.bind (texts_f _ (by omega)) (Ev.now _)

end Go.Proofs.Ytfogdolfanfocaa.Pure
