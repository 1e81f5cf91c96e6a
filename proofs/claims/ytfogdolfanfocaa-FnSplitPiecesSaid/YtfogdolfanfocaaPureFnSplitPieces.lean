/- FnSplitPieces: for every two texts (of bytes below 128, within the law's own bounds, else the law answers true) what the package's splitCharsInclusive cuts a text into has an odd number of pieces; each second piece is one byte that is one of the characters, and no other piece has one of them. -/
import Derived.Test.YtfogdolfanfocaaZ5
import Derived.Test.YtfogdolfanfocaaEv
import Derived.Test.YtfogdolfanfocaaComS
import Derived.Test.YtfogdolfanfocaaComA
namespace Go.Proofs.Ytfogdolfanfocaa.Pure
open Go.RowKit Go.Proofs.Ytfogdolfanfocaa.Z Go.Proofs.Ytfogdolfanfocaa.Evs Go.Proofs.Ytfogdolfanfocaa.Com Go.Proofs.YtfogdolfanfocaaW.PrintWords Go.Proofs.YtfogdolfanfocaaW.PrintLast
set_option linter.unusedVariables false
set_option linter.unusedSimpArgs false

theorem idx_tells (s chars : ByteArray) (d : Nat) : ∀ i : Nat, s.size ≤ i + d → (∀ j : Nat, j < i → (h : j < s.size) → hasB chars (s[j]'h) = false) →
    (idxAny s chars d i = -1 ∧ ∀ j : Nat, (h : j < s.size) → hasB chars (s[j]'h) = false) ∨
    ∃ n : Nat, idxAny s chars d i = (n : Int) ∧ ∃ h : n < s.size, hasB chars (s[n]'h) = true ∧ ∀ j : Nat, j < n → (hj : j < s.size) → hasB chars (s[j]'hj) = false := by
  induction d with
  | zero => intro i hi hn; exact .inl ⟨rfl, fun j h => hn j (by omega) h⟩
  | succ d ih =>
    intro i hi hn
    by_cases h : i < s.size
    · by_cases c : hasB chars (s[i]'h) = true
      · exact .inr ⟨i, by simp [idxAny, h, c], h, c, hn⟩
      · have e : idxAny s chars (d + 1) i = idxAny s chars d (i + 1) := by simp [idxAny, h, c]
        rw [e]
        refine ih (i + 1) (by omega) (fun j hj hjs => ?_)
        by_cases e2 : j = i
        · subst e2; simpa using c
        · exact hn j (by omega) hjs
    · exact .inl ⟨idxAny_end _ _ _ _ h, fun j hj => hn j (by omega) hj⟩
theorem get_extract (s : ByteArray) (a b : Nat) (hb : b ≤ s.size) (i : Nat) (h : i < (s.extract a b).size) : (s.extract a b)[i]'h = s[a + i]'(by simp at h; omega) := by
  simp [ByteArray.getElem_extract]
theorem asc_extract (s : ByteArray) (a b : Nat) (hb : b ≤ s.size) (h : ascB s = true) : ascB (s.extract a b) = true := by
  refine decide_eq_true (fun i hi => ?_)
  rw [get_extract s a b hb i hi]
  exact ascB_of h _ _

/-- What a list of pieces is. -/
def GoodAt (chars : ByteArray) (i : Nat) (p : ByteArray) : Prop :=
  p.size ≤ 1500 ∧ (i % 2 = 1 → p.size = 1) ∧ ∀ k : Nat, (h : k < p.size) → hasB chars (p[k]'h) = decide (i % 2 = 1)
def Good (chars : ByteArray) (l : List ByteArray) : Prop := ∀ (i : Nat) (p : ByteArray), l[i]? = some p → GoodAt chars i p
theorem good_add {chars : ByteArray} {l : List ByteArray} {p : ByteArray} (h : Good chars l) (hp : GoodAt chars l.length p) : Good chars (l ++ [p]) := by
  intro i q hq
  by_cases hi : i < l.length
  · rw [List.getElem?_append_left hi] at hq; exact h i q hq
  · have : i = l.length := by
      have := (List.getElem?_eq_some_iff.1 hq).1
      simp at this
      omega
    subst this
    simp at hq
    exact hq ▸ hp
theorem split_l (chars : ByteArray) (hch : ascB chars = true) (hcs : chars.size ≤ 1500) (d : Nat) : ∀ (s : ByteArray) (acc : List ByteArray), s.size ≤ d → s.size ≤ 1500 → ascB s = true → acc.length % 2 = 0 → acc.length + 2 * s.size ≤ 3000 → Good chars acc →
    ∃ l, Ev (fun k => semantic_splitCharsInclusive.l0 k s chars acc) l ∧ Good chars l ∧ l.length % 2 = 1 ∧ l.length ≤ 3001 := by
  induction d with
  | zero =>
    intro s acc hd hs ha he hm hg
    have hz : s.size = 0 := by omega
    have hf : semantic_zzIndexAny.f s chars = some (-1) := by
      unfold semantic_zzIndexAny.f
      rw [if_pos (by simp [ha, hch]; omega), hz]
      rfl
    refine ⟨acc ++ [s], Ev.step (fun _ => by rw [semantic_splitCharsInclusive.l0, hf, Option.bind_some]) ?_, good_add hg ⟨hs, fun h => by omega, fun k hk => by omega⟩, by simp; omega, by simp; omega⟩
    exact ev_pos (by omega) (ev_pos (by omega) (Ev.now _))
  | succ d ih =>
    intro s acc hd hs ha he hm hg
    have hf : semantic_zzIndexAny.f s chars = some (idxAny s chars s.size 0) := by
      unfold semantic_zzIndexAny.f
      rw [if_pos (by simp [ha, hch]; omega)]
    rcases idx_tells s chars s.size 0 (by omega) (fun j hj => by omega) with ⟨e, hno⟩ | ⟨n, e, hn, hyes, hno⟩
    · refine ⟨acc ++ [s], Ev.step (fun _ => by rw [semantic_splitCharsInclusive.l0, hf, e, Option.bind_some]) ?_, good_add hg ⟨hs, fun h => by omega, fun k hk => ?_⟩, by simp; omega, by simp; omega⟩
      · exact ev_pos (by omega) (ev_pos (by omega) (Ev.now _))
      rw [hno k hk]
      simp
      omega
    · have hw : wrap64 ((n : Int) + 1) = ((n + 1 : Nat) : Int) := wrap_nat (by omega)
      have hsz1 : (s.extract 0 n).size = n := by simp; omega
      have hsz2 : (s.extract n (n + 1)).size = 1 := by simp; omega
      have hsz3 : (s.extract (n + 1) s.size).size = s.size - (n + 1) := by simp
      have g1 : Good chars (acc ++ [s.extract 0 n]) := by
        refine good_add hg ⟨by omega, fun h => by omega, fun k hk => ?_⟩
        rw [get_extract s 0 n (by omega) k hk, hno _ (by omega)]
        simp
        omega
      have g2 : Good chars (acc ++ [s.extract 0 n, s.extract n (n + 1)]) := by
        have : acc ++ [s.extract 0 n, s.extract n (n + 1)] = (acc ++ [s.extract 0 n]) ++ [s.extract n (n + 1)] := by simp
        rw [this]
        refine good_add g1 ⟨by omega, fun _ => hsz2, fun k hk => ?_⟩
        rw [get_extract s n (n + 1) (by omega) k hk]
        have hk0 : k = 0 := by omega
        subst hk0
        have h1 : (acc ++ [s.extract 0 n]).length % 2 = 1 := by simp; omega
        rw [decide_eq_true h1]
        exact hyes
      obtain ⟨l, hl, h1, h2, h3⟩ := ih (s.extract (n + 1) s.size) (acc ++ [s.extract 0 n, s.extract n (n + 1)]) (by omega) (by omega) (asc_extract s _ _ (Nat.le_refl _) ha) (by simp; omega) (by simp; omega) g2
      refine ⟨l, Ev.step (fun _ => by rw [semantic_splitCharsInclusive.l0, hf, e, Option.bind_some, hw]) ?_, h1, h2, h3⟩
      refine ev_neg (by omega) (ev_pos (by omega) (ev_pos (by omega) ?_))
      simp only [Int.toNat_natCast]
      exact ev_pos (by omega) (ev_pos (by omega) (ev_some (ev_pos (by simp; omega) (ev_pos (by omega) hl))))
theorem split_ev (s chars : ByteArray) (hs : s.size ≤ 1500) (hcs : chars.size ≤ 1500) (ha : ascB s = true) (hch : ascB chars = true) :
    ∃ l, Ev (fun k => impl_SplitInclusive.f k s chars) l ∧ Good chars l ∧ l.length % 2 = 1 ∧ l.length ≤ 3001 := by
  obtain ⟨l, hl, h1, h2, h3⟩ := split_l chars hch hcs s.size s [] (Nat.le_refl _) hs ha rfl (by simp; omega) (fun i p h => by simp at h)
  refine ⟨l, ?_, h1, h2, h3⟩
  unfold impl_SplitInclusive.f semantic_ZZSplitInclusive.f semantic_splitCharsInclusive.f
  refine Ev.bind (Ev.bind hl (Ev.now _)) ?_
  simp only [List.nil_append]
  exact ev_pos (by simp; omega) (Ev.now _)

theorem hasB_iff (chars : ByteArray) (c : UInt8) : hasB chars c = true ↔ ∃ j : Nat, ∃ h : j < chars.size, chars[j]'h = c := by
  constructor
  · intro h
    cases e : decide (∃ j : Nat, ∃ h : j < chars.size, chars[j]'h = c) with
    | true => exact of_decide_eq_true e
    | false =>
      rw [hasB_none (fun j hj he => (of_decide_eq_false e) ⟨j, hj, he⟩)] at h
      cases h
  · rintro ⟨j, h, e⟩
    exact hasB_at j h e
theorem inner_l (chars : ByteArray) (l : List ByteArray) (hcs : chars.size ≤ 1500) (x37 : List ByteArray) (x38 x39 : Int) (i : Int) (p : ByteArray) (m : Nat) (hm : m < p.size) (r : Bool)
    (hd : hasB chars (p[m]'hm) = (Int.tmod i 2 == 1)) (hnext : Ev (fun k => laws_FnSplitPieces.l1 k chars l i p (wrap64 ((m : Int) + 1)) x37 x38 x39) r) (d : Nat) :
    ∀ (j : Nat) (b : Bool), j + d = chars.size → (b = true ↔ ∃ q : Nat, q < j ∧ ∃ h : q < chars.size, chars[q]'h = p[m]'hm) → Ev (fun k => laws_FnSplitPieces.l2 k chars l i p (m : Int) b (j : Int) x37 x38 x39) r := by
  induction d with
  | zero =>
    intro j b hj hb
    have e : b = hasB chars (p[m]'hm) := by
      rw [Bool.eq_iff_iff, hb, hasB_iff]
      exact ⟨fun ⟨q, _, h, e⟩ => ⟨q, h, e⟩, fun ⟨q, h, e⟩ => ⟨q, by omega, h, e⟩⟩
    refine Ev.step (fun _ => by rw [laws_FnSplitPieces.l2]) (ev_neg (by omega) (ev_neg ?_ hnext))
    rw [e, hd]
    simp
  | succ d ih =>
    intro j b hj hb
    have hw : wrap64 ((j : Int) + 1) = ((j + 1 : Nat) : Int) := wrap_nat (by omega)
    cases b with
    | true =>
      refine Ev.step (fun _ => by rw [laws_FnSplitPieces.l2, hw]) (ev_pos (by omega) (ev_t (ih (j + 1) true (by omega) ⟨fun _ => ?_, fun _ => rfl⟩)))
      obtain ⟨q, hq, h⟩ := hb.1 rfl
      exact ⟨q, by omega, h⟩
    | false =>
      refine Ev.step (fun _ => by rw [laws_FnSplitPieces.l2, hw]) (ev_pos (by omega) (ev_f (ev_pos (by omega) (ev_pos (by omega) (ev_pos (by omega) (ih (j + 1) _ (by omega) ?_))))))
      rw [bt_nat chars j (by omega), bt_nat p m hm, beq_iff_eq]
      constructor
      · intro e
        exact ⟨j, by omega, by omega, UInt8.toNat_inj.1 (by omega)⟩
      · rintro ⟨q, hq, h, e⟩
        by_cases hqj : q < j
        · exact absurd (hb.2 ⟨q, hqj, h, e⟩) (by decide)
        · have : q = j := by omega
          subst this
          rw [e]
theorem mid_l (chars : ByteArray) (l : List ByteArray) (hcs : chars.size ≤ 1500) (x37 : List ByteArray) (x38 x39 : Int) (i : Int) (p : ByteArray) (hp : p.size ≤ 140737488351232) (r : Bool)
    (hd : ∀ m : Nat, (hm : m < p.size) → hasB chars (p[m]'hm) = (Int.tmod i 2 == 1)) (h1 : Int.tmod i 2 = 1 → p.size = 1) (hnext : Ev (fun k => laws_FnSplitPieces.l0 k chars l x37 x38 (wrap64 (x39 + 1))) r) (d : Nat) :
    ∀ m : Nat, m + d = p.size → Ev (fun k => laws_FnSplitPieces.l1 k chars l i p (m : Int) x37 x38 x39) r := by
  induction d with
  | zero =>
    intro m hm
    refine Ev.step (fun _ => by rw [laws_FnSplitPieces.l1]) (ev_neg (by omega) (ev_ite (fun c => ev_pos (by have := h1 c; omega) hnext) (fun _ => hnext)))
  | succ d ih =>
    intro m hm
    refine Ev.step (fun _ => by rw [laws_FnSplitPieces.l1]) (ev_pos (by omega) ?_)
    refine inner_l chars l hcs x37 x38 x39 i p m (by omega) r (hd m (by omega)) ?_ chars.size 0 false (by omega) ⟨(fun h => by cases h), fun ⟨q, h, _⟩ => by omega⟩
    rw [wrap_nat (by omega)]
    exact ih (m + 1) (by omega)
theorem outer_l (chars : ByteArray) (l : List ByteArray) (hcs : chars.size ≤ 1500) (hl : l.length ≤ 3001) (hg : Good chars l) (ho : l.length % 2 = 1) (hz : ∀ p ∈ l, p.size ≤ 140737488351232) (d : Nat) :
    ∀ i : Nat, i + d = l.length → Ev (fun k => laws_FnSplitPieces.l0 k chars l l (l.length : Int) (i : Int)) true := by
  induction d with
  | zero =>
    intro i hi
    refine Ev.step (fun _ => by rw [laws_FnSplitPieces.l0]) (ev_neg (by omega) (ev_now ?_))
    rw [beq_iff_eq]
    omega
  | succ d ih =>
    intro i hi
    have hget : l[i]? = some (l[i]'(by omega)) := List.getElem?_eq_getElem (by omega)
    have hr : rdOf ByteArray.empty l (i : Int) = l[i]'(by omega) := by rw [rdOf_nat]; simp [List.getD_eq_getElem?_getD, hget]
    obtain ⟨_, g1, g2⟩ := hg i _ hget
    have hmod : Int.tmod (i : Int) 2 = ((i % 2 : Nat) : Int) := by rw [Int.tmod_eq_emod_of_nonneg (by omega)]; omega
    refine Ev.step (fun _ => by rw [laws_FnSplitPieces.l0, hr]) (ev_pos (by omega) (ev_pos (by omega) (ev_pos (by omega) ?_)))
    refine mid_l chars l hcs l _ _ (i : Int) _ (hz _ (List.getElem_mem _)) true (fun m hm => ?_) (fun c => g1 (by omega)) ?_ (l[i]'(by omega)).size 0 (by omega)
    · rw [g2 m hm, Bool.eq_iff_iff, beq_iff_eq, decide_eq_true_eq]
      omega
    · rw [wrap_nat (by omega)]
      exact ih (i + 1) (by omega)

/- ∀ (a0 : ByteArray) (a1 : ByteArray), a0.size ≤ 140737488351232 → a1.size ≤ 140737488351232 → ∃ k, laws_FnSplitPieces.f k a0 a1 = some true -/
theorem FnSplitPieces : laws_FnSplitPieces.Pure := by
  intro a b ha hb
  refine Ev.rounds ?_
  unfold laws_FnSplitPieces.f
  have key : ∀ x, Ev (fun k => laws_FnSplitPieces.j0 k a b x) true := by
    intro x
    refine Ev.step (fun _ => by rw [laws_FnSplitPieces.j0]) ?_
    refine ev_ite (fun _ => Ev.now _) (fun _ => ?_)
    have j1t : Ev (fun k => laws_FnSplitPieces.j1 k a b true) true := Ev.step (fun _ => by rw [laws_FnSplitPieces.j1]) (ev_t (Ev.now _))
    obtain ⟨r, hr, hq⟩ := short2 a b
    refine Ev.bind hr ?_
    cases r with
    | false => exact ev_f j1t
    | true =>
      obtain ⟨sa, sb⟩ := hq rfl
      refine ev_t ?_
      obtain ⟨r, hr, hqa⟩ := ascii_ev a (by omega)
      refine Ev.bind hr ?_
      cases r with
      | false => exact ev_f j1t
      | true =>
        refine ev_t ?_
        obtain ⟨r, hr, hqb⟩ := ascii_ev b (by omega)
        refine Ev.bind hr ?_
        cases r with
        | false => exact j1t
        | true =>
          refine Ev.step (fun _ => by rw [laws_FnSplitPieces.j1, Bool.not_true]) (ev_f ?_)
          obtain ⟨l, hl, hg, ho, hn⟩ := split_ev a b sa sb (decide_eq_true (hqa rfl)) (decide_eq_true (hqb rfl))
          refine Ev.bind hl ?_
          refine outer_l b l sb hn hg ho (fun p hp => ?_) l.length 0 (by omega)
          obtain ⟨i, hi⟩ := List.getElem?_of_mem hp
          have := (hg i p hi).1
          omega
  exact ev_ite (fun _ => key _) (fun _ => key _)

end Go.Proofs.Ytfogdolfanfocaa.Pure
