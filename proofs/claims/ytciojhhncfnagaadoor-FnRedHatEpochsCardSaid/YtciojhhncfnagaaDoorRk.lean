/- Red Hat's comparison as the order of keys: lists of numbers, the first that differ telling; so it is an order, and zeros and marks change nothing. -/
import Derived.Test.YtciojhhncfnagaaDoorRh
import Derived.Test.YtciojhhncfnagaaDoorLx
namespace Go.Proofs.YtciojhhncfnagaaDoor.Rk
open Go Go.Proofs.YtciojhhncfnagaaDoor.By Go.Proofs.YtciojhhncfnagaaDoor.Rh Go.Proofs.YtciojhhncfnagaaDoor.Lx
set_option linter.unusedVariables false
set_option linter.unusedSimpArgs false
/-- One piece of a key, and what is left. -/
def rhItem (d : Bool) (run : List UInt8) : List Nat := if d then 4 :: (rhZ run).length :: (rhZ run).map (·.toNat) else 3 :: (run.map (·.toNat + 1) ++ [0])
def rhKey : Nat → List UInt8 → List Nat
  | 0, _ => []
  | n + 1, a0 => match rhSkip a0 with
    | [] => [1]
    | c :: a => if c = 126 then 0 :: rhKey n a else if c = 94 then 2 :: rhKey n a else rhItem (dg c) ((c :: a).takeWhile (rhCls (dg c))) ++ rhKey n ((c :: a).dropWhile (rhCls (dg c)))
theorem rhSkip_len (l : List UInt8) : (rhSkip l).length ≤ l.length := (List.dropWhile_sublist _).length_le
/-- What a text that is not left out begins with. -/
theorem rhSkip_head {l : List UInt8} {c : UInt8} {a : List UInt8} (h : rhSkip l = c :: a) : rhTrim c = false := by
  unfold rhSkip at h
  have := List.head_dropWhile_not rhTrim (l := l) (by rw [h]; simp)
  simpa [h] using this
theorem cls_of {c : UInt8} (h : rhTrim c = false) (h1 : c ≠ 126) (h2 : c ≠ 94) : rhCls (dg c) c = true := by
  unfold rhTrim at h
  unfold rhCls
  cases hd : dg c with
  | true => simp [hd]
  | false =>
    simp [hd, h1, h2] at h ⊢
    exact h
theorem cls_other {c e : UInt8} (h : dg c = true) (h2 : dg e = false) : rhCls (dg c) e = false := by
  simp [rhCls, h, h2]
theorem dg_lt {c : UInt8} (h : dg c = true) : lt c = false := by
  simp only [dg, lt, decide_eq_true_eq, decide_eq_false_iff_not] at *
  omega
theorem dw_len {p : UInt8 → Bool} {c : UInt8} {a : List UInt8} (h : p c = true) : ((c :: a).dropWhile p).length ≤ a.length := by
  rw [List.dropWhile_cons, if_pos h]
  exact (List.dropWhile_sublist _).length_le
theorem rhKey_fuel : ∀ (n m : Nat) (a : List UInt8), a.length < n → a.length < m → rhKey n a = rhKey m a := by
  intro n
  induction n with
  | zero => intro m a h; omega
  | succ n ih =>
    intro m a h1 h2
    obtain ⟨m, rfl⟩ : ∃ k, m = k + 1 := ⟨m - 1, by omega⟩
    unfold rhKey
    have hl := rhSkip_len a
    cases hs : rhSkip a with
    | nil => rfl
    | cons c r =>
      rw [hs] at hl
      simp only [List.length_cons] at hl
      have hr := ih m r (by omega) (by omega)
      simp only [hr]
      split
      · rfl
      · split
        · rfl
        · rename_i h3 h4
          have := dw_len (a := r) (cls_of (rhSkip_head hs) h3 h4)
          rw [ih m _ (by omega) (by omega)]
def rhK (a : List UInt8) : List Nat := rhKey (a.length + 1) a
theorem rhK_step (a : List UInt8) : rhK a = match rhSkip a with
    | [] => [1]
    | c :: r => if c = 126 then 0 :: rhK r else if c = 94 then 2 :: rhK r else rhItem (dg c) ((c :: r).takeWhile (rhCls (dg c))) ++ rhK ((c :: r).dropWhile (rhCls (dg c))) := by
  rw [rhK, rhKey]
  have hl := rhSkip_len a
  cases hs : rhSkip a with
  | nil => rfl
  | cons c r =>
    rw [hs] at hl
    simp only [List.length_cons] at hl
    simp only []
    split
    · rw [rhK, rhKey_fuel a.length (r.length + 1) r (by omega) (by omega)]
    · split
      · rw [rhK, rhKey_fuel a.length (r.length + 1) r (by omega) (by omega)]
      · rename_i h3 h4
        have := dw_len (a := r) (cls_of (rhSkip_head hs) h3 h4)
        rw [rhK, rhKey_fuel a.length (((c :: r).dropWhile (rhCls (dg c))).length + 1) _ (by omega) (by omega)]
theorem tw_ne {p : UInt8 → Bool} {c : UInt8} {a : List UInt8} (h : p c = true) : ((c :: a).takeWhile p).length ≠ 0 := by
  rw [List.takeWhile_cons, if_pos h]; simp
theorem tw_nil {p : UInt8 → Bool} {c : UInt8} {a : List UInt8} (h : p c = false) : ((c :: a).takeWhile p).length = 0 := by
  rw [List.takeWhile_cons, if_neg (by simp [h])]; simp
/-- The items of two runs of one kind. -/
theorem lex_items (d : Bool) (x y : List UInt8) (a b : List Nat) : lex (rhItem d x ++ a) (rhItem d y ++ b) = if rhRuns d x y ≠ 0 then rhRuns d x y else lex a b := by
  cases d with
  | false =>
    simp only [rhItem, rhRuns, Bool.false_eq_true, if_false, List.cons_append, List.append_assoc, List.nil_append, lex_cons]
    rw [lex_words]
    by_cases h : Lib.compareBytes x y = 0 <;> simp [h]
  | true =>
    simp only [rhItem, rhRuns, if_true, List.cons_append, lex_cons]
    by_cases h : (rhZ y).length < (rhZ x).length
    · rw [if_pos h, lex_gt h, if_pos (by decide)]
    · rw [if_neg h]
      by_cases h2 : (rhZ x).length < (rhZ y).length
      · rw [if_pos h2, lex_lt h2, if_pos (by decide)]
      · rw [if_neg h2]
        have e : (rhZ x).length = (rhZ y).length := by omega
        rw [e, lex_cons, lex_bytes _ _ _ _ e]
        by_cases h : Lib.compareBytes (rhZ x) (rhZ y) = 0 <;> simp [h]
theorem rhL_key : ∀ (n : Nat) (a b : List UInt8), a.length + b.length < n → rhL n a b = lex (rhK a) (rhK b) := by
  intro n
  induction n with
  | zero => intro a b h; omega
  | succ n ih =>
    intro a b h
    rw [rhL, rhK_step a, rhK_step b]
    have la := rhSkip_len a
    have lb := rhSkip_len b
    cases ha : rhSkip a with
    | nil =>
      cases hb : rhSkip b with
      | nil => rfl
      | cons e s =>
        simp only []
        split
        · exact (lex_gt (by decide) _ _).symm
        · split
          · exact (lex_lt (by decide) _ _).symm
          · cases dg e with
            | true => exact (lex_lt (by decide) _ _).symm
            | false => exact (lex_lt (by decide) _ _).symm
    | cons c r =>
      rw [ha] at la
      simp only [List.length_cons] at la
      cases hb : rhSkip b with
      | nil =>
        simp only []
        split
        · exact (lex_lt (by decide) _ _).symm
        · split
          · exact (lex_gt (by decide) _ _).symm
          · cases dg c with
            | true => exact (lex_gt (by decide) _ _).symm
            | false => exact (lex_gt (by decide) _ _).symm
      | cons e s =>
        rw [hb] at lb
        simp only [List.length_cons] at lb
        have hrs := ih r s (by omega)
        have item1 : ∀ (d : Bool) (x : List UInt8) (z : List Nat), ∃ (q : Nat) (t : List Nat), rhItem d x ++ z = q :: t ∧ 2 < q := by
          intro d x z
          cases d with
          | true => exact ⟨4, _, rfl, by decide⟩
          | false => exact ⟨3, _, rfl, by decide⟩
        by_cases c1 : c = 126
        · by_cases e1 : e = 126
          · simp only [if_pos c1, if_pos e1, lex_cons, hrs]
          · simp only [if_pos c1, if_neg e1]
            by_cases e2 : e = 94
            · rw [if_pos e2]; exact (lex_lt (by decide) _ _).symm
            · rw [if_neg e2]
              obtain ⟨q, t, ht, hq⟩ := item1 (dg e) ((e :: s).takeWhile (rhCls (dg e))) (rhK ((e :: s).dropWhile (rhCls (dg e))))
              rw [ht]; exact (lex_lt (by omega) _ _).symm
        · by_cases e1 : e = 126
          · simp only [if_neg c1, if_pos e1]
            by_cases c2 : c = 94
            · rw [if_pos c2]; exact (lex_gt (by decide) _ _).symm
            · rw [if_neg c2]
              obtain ⟨q, t, ht, hq⟩ := item1 (dg c) ((c :: r).takeWhile (rhCls (dg c))) (rhK ((c :: r).dropWhile (rhCls (dg c))))
              rw [ht]; exact (lex_gt (by omega) _ _).symm
          · by_cases c2 : c = 94
            · by_cases e2 : e = 94
              · simp only [if_neg c1, if_neg e1, if_pos c2, if_pos e2, lex_cons, hrs]
              · simp only [if_neg c1, if_neg e1, if_pos c2, if_neg e2]
                obtain ⟨q, t, ht, hq⟩ := item1 (dg e) ((e :: s).takeWhile (rhCls (dg e))) (rhK ((e :: s).dropWhile (rhCls (dg e))))
                rw [ht]; exact (lex_lt (by omega) _ _).symm
            · by_cases e2 : e = 94
              · simp only [if_neg c1, if_neg e1, if_neg c2, if_pos e2]
                obtain ⟨q, t, ht, hq⟩ := item1 (dg c) ((c :: r).takeWhile (rhCls (dg c))) (rhK ((c :: r).dropWhile (rhCls (dg c))))
                rw [ht]; exact (lex_gt (by omega) _ _).symm
              · simp only [if_neg c1, if_neg e1, if_neg c2, if_neg e2]
                have kc := cls_of (rhSkip_head ha) c1 c2
                have ke := cls_of (rhSkip_head hb) e1 e2
                by_cases hd : dg c = dg e
                · rw [← hd] at ke
                  rw [if_neg (tw_ne ke), ← hd, lex_items]
                  have l1 := dw_len (a := r) kc
                  have l2 := dw_len (a := s) ke
                  rw [ih _ _ (by omega)]
                · have kn : rhCls (dg c) e = false := by
                    cases h1 : dg c with
                    | true =>
                      have : dg e = false := by cases h2 : dg e with
                        | true => exact absurd (h1.trans h2.symm) hd
                        | false => rfl
                      simp [rhCls, this]
                    | false =>
                      have : dg e = true := by cases h2 : dg e with
                        | true => rfl
                        | false => exact absurd (h1.trans h2.symm) hd
                      simp [rhCls, dg_lt this]
                  rw [if_pos (tw_nil kn)]
                  cases h1 : dg c with
                  | true =>
                    have : dg e = false := by cases h2 : dg e with
                      | true => exact absurd (h1.trans h2.symm) hd
                      | false => rfl
                    rw [this]
                    exact (lex_gt (x := 4) (y := 3) (by decide) _ _).symm
                  | false =>
                    have : dg e = true := by cases h2 : dg e with
                      | true => rfl
                      | false => exact absurd (h1.trans h2.symm) hd
                    rw [this]
                    exact (lex_lt (x := 3) (y := 4) (by decide) _ _).symm
/-- The key of a part: first whether it is empty. -/
def rhKT (a : List UInt8) : List Nat := if a = [] then [0] else 1 :: rhK a
theorem rhTop_key (a b : List UInt8) : rhTop a b = lex (rhKT a) (rhKT b) := by
  unfold rhTop rhKT
  cases a with
  | nil => cases b with
    | nil => simp [rhL, rhSkip, lex]
    | cons d b => simp [lex]
  | cons c a => cases b with
    | nil => simp [lex]
    | cons d b =>
      rw [if_neg (by simp), if_neg (by simp), if_neg (by simp), if_neg (by simp), lex_cons, rhL_key _ _ _ (by omega)]

/-! zeros ahead of numbers -/
/-- A text with a zero ahead of each run of digits; o: a run is open. -/
def zer : Bool → List UInt8 → List UInt8
  | _, [] => []
  | o, c :: l => if dg c && !o then 48 :: c :: zer true l else c :: zer (dg c) l
theorem zer_other (o : Bool) (c : UInt8) (l : List UInt8) (h : dg c = false) : zer o (c :: l) = c :: zer false l := by simp [zer, h]
theorem zer_first (c : UInt8) (l : List UInt8) (h : dg c = true) : zer false (c :: l) = 48 :: c :: zer true l := by simp [zer, h]
theorem zer_next (c : UInt8) (l : List UInt8) (h : dg c = true) : zer true (c :: l) = c :: zer true l := by simp [zer, h]
theorem dg48 : dg 48 = true := by decide
theorem zer_skip : ∀ l : List UInt8, rhSkip (zer false l) = zer false (rhSkip l)
  | [] => rfl
  | c :: l => by
    cases hd : dg c with
    | true =>
      have ht : rhTrim c = false := by simp [rhTrim, hd]
      have h48 : rhTrim 48 = false := by decide
      rw [zer_first c l hd, rhSkip, List.dropWhile_cons, if_neg (by simp [h48]), rhSkip, List.dropWhile_cons, if_neg (by simp [ht]), zer_first c l hd]
    | false =>
      rw [zer_other _ c l hd]
      cases ht : rhTrim c with
      | true =>
        have ih := zer_skip l
        rw [rhSkip, List.dropWhile_cons, if_pos ht, rhSkip, List.dropWhile_cons, if_pos ht]
        exact ih
      | false =>
        rw [rhSkip, List.dropWhile_cons, if_neg (by simp [ht]), rhSkip, List.dropWhile_cons, if_neg (by simp [ht]), zer_other _ c l hd]
theorem zer_digits : ∀ l : List UInt8, (zer true l).takeWhile dg = l.takeWhile dg ∧ (zer true l).dropWhile dg = zer false (l.dropWhile dg)
  | [] => ⟨rfl, rfl⟩
  | c :: l => by
    cases hd : dg c with
    | true =>
      have ih := zer_digits l
      rw [zer_next c l hd]
      simp only [List.takeWhile_cons, List.dropWhile_cons, hd, if_true, ih]
      exact ⟨trivial, trivial⟩
    | false =>
      rw [zer_other _ c l hd]
      simp only [List.takeWhile_cons, List.dropWhile_cons, hd, Bool.false_eq_true, if_false, zer_other _ c l hd]
      exact ⟨trivial, trivial⟩
theorem zer_letters : ∀ l : List UInt8, (zer false l).takeWhile lt = l.takeWhile lt ∧ (zer false l).dropWhile lt = zer false (l.dropWhile lt)
  | [] => ⟨rfl, rfl⟩
  | c :: l => by
    cases hd : dg c with
    | true =>
      have h1 := dg_lt hd
      have h48 : lt 48 = false := by decide
      rw [zer_first c l hd]
      simp only [List.takeWhile_cons, List.dropWhile_cons, h1, h48, Bool.false_eq_true, if_false, zer_first c l hd]
      exact ⟨trivial, trivial⟩
    | false =>
      rw [zer_other _ c l hd]
      cases hl : lt c with
      | true =>
        have ih := zer_letters l
        simp only [List.takeWhile_cons, List.dropWhile_cons, hl, if_true, ih]
        exact ⟨trivial, trivial⟩
      | false =>
        simp only [List.takeWhile_cons, List.dropWhile_cons, hl, Bool.false_eq_true, if_false, zer_other _ c l hd]
        exact ⟨trivial, trivial⟩
theorem cls_true : rhCls true = dg := funext fun c => rfl
theorem cls_false : rhCls false = lt := funext fun c => rfl
theorem rhK_zer : ∀ (n : Nat) (l : List UInt8), l.length < n → rhK (zer false l) = rhK l
  | 0, _, h => by omega
  | n + 1, l, h => by
    rw [rhK_step, rhK_step l, zer_skip]
    have hl := rhSkip_len l
    cases hs : rhSkip l with
    | nil => rfl
    | cons c r =>
      rw [hs] at hl
      simp only [List.length_cons] at hl
      have hr := rhK_zer n r (by omega)
      have htr := rhSkip_head hs
      by_cases c1 : c = 126
      · have hd : dg c = false := by rw [c1]; decide
        rw [zer_other _ c r hd]
        simp only [if_pos c1, hr]
      · by_cases c2 : c = 94
        · have hd : dg c = false := by rw [c2]; decide
          rw [zer_other _ c r hd]
          simp only [if_neg c1, if_pos c2, hr]
        · have kc := cls_of htr c1 c2
          have hdl := dw_len (a := r) kc
          have hrd := rhK_zer n ((c :: r).dropWhile (rhCls (dg c))) (by omega)
          cases hd : dg c with
          | true =>
            rw [hd, cls_true] at hrd
            rw [zer_first c r hd]
            simp only [if_neg c1, if_neg c2, show ¬ (48 : UInt8) = 126 by decide, show ¬ (48 : UInt8) = 94 by decide, if_false, dg48, hd, cls_true]
            have z := zer_digits r
            have e1 : (48 :: c :: zer true r).takeWhile dg = 48 :: (c :: r).takeWhile dg := by
              simp only [List.takeWhile_cons, dg48, hd, if_true, z.1]
            have e2 : (48 :: c :: zer true r).dropWhile dg = zer false ((c :: r).dropWhile dg) := by
              simp only [List.dropWhile_cons, dg48, hd, if_true, z.2]
            rw [e1, e2, hrd]
            have e3 : rhItem true (48 :: (c :: r).takeWhile dg) = rhItem true ((c :: r).takeWhile dg) := by
              have : rhZ (48 :: (c :: r).takeWhile dg) = rhZ ((c :: r).takeWhile dg) := by
                rw [rhZ, List.dropWhile_cons, if_pos (by decide)]
                rfl
              simp only [rhItem, if_true, this]
            rw [e3]
          | false =>
            rw [hd, cls_false] at hrd
            rw [zer_other _ c r hd]
            have hlt : lt c = true := by
              have := kc
              rw [hd, cls_false] at this
              exact this
            have z := zer_letters r
            simp only [if_neg c1, if_neg c2, hd, cls_false]
            have e1 : (c :: zer false r).takeWhile lt = (c :: r).takeWhile lt := by
              simp only [List.takeWhile_cons, hlt, if_true, z.1]
            have e2 : (c :: zer false r).dropWhile lt = zer false ((c :: r).dropWhile lt) := by
              simp only [List.dropWhile_cons, hlt, if_true, z.2]
            rw [e1, e2, hrd]
theorem rhKT_zer (l : List UInt8) : rhKT (zer false l) = rhKT l := by
  cases l with
  | nil => rfl
  | cons c l =>
    have h : zer false (c :: l) ≠ [] := by
      cases hd : dg c with
      | true => rw [zer_first c l hd]; simp
      | false => rw [zer_other _ c l hd]; simp
    rw [rhKT, if_neg h, rhKT, if_neg (by simp), rhK_zer _ _ (Nat.lt_succ_self _)]
/-! marks between -/
theorem skip_marks : ∀ (m b : List UInt8), m.all rhTrim = true → rhSkip (m ++ b) = rhSkip b
  | [], _, _ => rfl
  | c :: m, b, h => by
    simp only [List.all_cons, Bool.and_eq_true] at h
    rw [List.cons_append, rhSkip, List.dropWhile_cons, if_pos h.1]
    exact skip_marks m b h.2
theorem rhK_marks (m b : List UInt8) (h : m.all rhTrim = true) : rhK (m ++ b) = rhK b := by
  rw [rhK_step, rhK_step b, skip_marks m b h]
theorem tw_stop (p : UInt8 → Bool) : ∀ (a : List UInt8) (c : UInt8) (b : List UInt8), p c = false → (a ++ c :: b).takeWhile p = a.takeWhile p ∧ (a ++ c :: b).dropWhile p = a.dropWhile p ++ c :: b
  | [], c, b, h => by simp [h]
  | x :: a, c, b, h => by
    have ih := tw_stop p a c b h
    rw [List.cons_append]
    cases hx : p x with
    | true =>
      simp only [List.takeWhile_cons, List.dropWhile_cons, hx, if_true, ih]
      exact ⟨trivial, trivial⟩
    | false =>
      simp only [List.takeWhile_cons, List.dropWhile_cons, hx, Bool.false_eq_true, if_false]
      exact ⟨trivial, rfl⟩
theorem trim_cls {c : UInt8} (h : rhTrim c = true) (d : Bool) : rhCls d c = false := by
  simp only [rhTrim, Bool.and_eq_true, Bool.not_eq_true', bne_iff_ne] at h
  cases d with
  | true => rw [cls_true]; exact h.1.1.2
  | false => rw [cls_false]; exact h.1.1.1
/-- Letters and digits, then at least one mark: which ones does not count. -/
theorem rhK_between : ∀ (n : Nat) (a : List UInt8), a.length < n → a.all (fun c => dg c || lt c) = true → ∀ (x y : UInt8) (m k b : List UInt8), (x :: m).all rhTrim = true → (y :: k).all rhTrim = true → rhK (a ++ (x :: m) ++ b) = rhK (a ++ (y :: k) ++ b)
  | 0, _, h => by omega
  | n + 1, [], _ => by
    intro _ x y m k b h1 h2
    rw [List.nil_append, List.nil_append, rhK_marks _ _ h1, rhK_marks _ _ h2]
  | n + 1, c :: a, h => by
    intro ha x y m k b h1 h2
    have hc : (dg c || lt c) = true := by
      have := List.all_eq_true.1 ha c (by simp)
      exact this
    have htr : rhTrim c = false := by
      cases hd : dg c <;> cases hl : lt c <;> simp [rhTrim, hd, hl] at hc ⊢
    have n1 : ¬ c = 126 := by
      intro e
      subst e
      exact absurd hc (by decide)
    have n2 : ¬ c = 94 := by
      intro e
      subst e
      exact absurd hc (by decide)
    have kc := cls_of htr n1 n2
    have hx : rhTrim x = true := by simp only [List.all_cons, Bool.and_eq_true] at h1; exact h1.1
    have hy : rhTrim y = true := by simp only [List.all_cons, Bool.and_eq_true] at h2; exact h2.1
    have key : ∀ (z : UInt8) (q : List UInt8), rhTrim z = true → rhK ((c :: a) ++ (z :: q) ++ b) = rhItem (dg c) ((c :: a).takeWhile (rhCls (dg c))) ++ rhK ((c :: a).dropWhile (rhCls (dg c)) ++ (z :: q) ++ b) := by
      intro z q hz
      have e := tw_stop (rhCls (dg c)) (c :: a) z (q ++ b) (trim_cls hz _)
      have hs : rhSkip ((c :: a) ++ (z :: q) ++ b) = c :: (a ++ (z :: q) ++ b) := by
        rw [List.cons_append, List.cons_append, rhSkip, List.dropWhile_cons, if_neg (by simp [htr])]
      rw [rhK_step, hs]
      simp only [if_neg n1, if_neg n2]
      have e0 : c :: (a ++ (z :: q) ++ b) = (c :: a) ++ z :: (q ++ b) := by simp
      rw [e0, e.1, e.2]
      simp
    rw [key x m hx, key y k hy]
    have hdl := dw_len (a := a) kc
    have hall : ((c :: a).dropWhile (rhCls (dg c))).all (fun c => dg c || lt c) = true := by
      rw [List.all_eq_true] at ha ⊢
      exact fun z hz => ha z ((List.dropWhile_sublist _).subset hz)
    rw [rhK_between n ((c :: a).dropWhile (rhCls (dg c))) (by simp only [List.length_cons] at h; omega) hall x y m k b h1 h2]
end Go.Proofs.YtciojhhncfnagaaDoor.Rk
