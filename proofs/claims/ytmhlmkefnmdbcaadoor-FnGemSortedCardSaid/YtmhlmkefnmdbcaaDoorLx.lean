/- Orders: lists of numbers, the first that differ telling; what the laws call chained; two orders one behind the other. -/
import Derived.Lib.Bytealg
import Derived.Test.YtmhlmkefnmdbcaaDoorProg
namespace Go.Proofs.YtmhlmkefnmdbcaaDoor.Lx
open Go
set_option linter.unusedVariables false
set_option linter.unusedSimpArgs false
/-- The order of lists of numbers, the first that differ telling. -/
def lex : List Nat → List Nat → Int
  | [], [] => 0
  | [], _ :: _ => -1
  | _ :: _, [] => 1
  | x :: a, y :: b => if x < y then -1 else if y < x then 1 else lex a b
theorem lex_range (a : List Nat) : ∀ b, -1 ≤ lex a b ∧ lex a b ≤ 1 := by
  induction a with
  | nil => intro b; cases b <;> simp [lex]
  | cons x a ih =>
    intro b
    cases b with
    | nil => simp [lex]
    | cons y b =>
      unfold lex
      split
      · omega
      · split
        · omega
        · exact ih b
theorem lex_self (a : List Nat) : lex a a = 0 := by
  induction a with
  | nil => rfl
  | cons x a ih => unfold lex; rw [if_neg (by omega), if_neg (by omega), ih]
theorem lex_eq {a : List Nat} : ∀ {b : List Nat}, lex a b = 0 → a = b := by
  induction a with
  | nil => intro b h; cases b with
    | nil => rfl
    | cons y b => simp [lex] at h
  | cons x a ih =>
    intro b h
    cases b with
    | nil => simp [lex] at h
    | cons y b =>
      unfold lex at h
      split at h
      · omega
      · split at h
        · omega
        · rw [ih h, show x = y by omega]
theorem lex_anti (a : List Nat) : ∀ b, lex b a = -lex a b := by
  induction a with
  | nil => intro b; cases b <;> simp [lex]
  | cons x a ih =>
    intro b
    cases b with
    | nil => simp [lex]
    | cons y b =>
      unfold lex
      by_cases h : x < y
      · rw [if_neg (by omega), if_pos h, if_pos h]; rfl
      · by_cases h2 : y < x
        · rw [if_pos h2, if_neg h, if_pos h2]
        · rw [if_neg h2, if_neg h, if_neg h, if_neg h2, ih b]
theorem lex_trans (a : List Nat) : ∀ b c, lex a b ≤ 0 → lex b c ≤ 0 → lex a c ≤ 0 := by
  induction a with
  | nil => intro b c _ _; cases c <;> simp [lex]
  | cons x a ih =>
    intro b c h1 h2
    cases b with
    | nil => simp [lex] at h1
    | cons y b =>
      cases c with
      | nil => simp [lex] at h2
      | cons z c =>
        unfold lex at h1 h2 ⊢
        by_cases e1 : x < y
        · by_cases e2 : y < z
          · rw [if_pos (by omega)]; omega
          · rw [if_neg e2] at h2
            by_cases e3 : z < y
            · rw [if_pos e3] at h2; omega
            · rw [if_pos (by omega)]; omega
        · rw [if_neg e1] at h1
          by_cases e4 : y < x
          · rw [if_pos e4] at h1; omega
          · rw [if_neg e4] at h1
            have : x = y := by omega
            subst this
            by_cases e2 : x < z
            · rw [if_pos e2]; omega
            · rw [if_neg e2] at h2 ⊢
              by_cases e3 : z < x
              · rw [if_pos e3] at h2; omega
              · rw [if_neg e3] at h2 ⊢
                exact ih b c h1 h2
/-- What the laws call 'chained'. -/
def Chained (ab bc ac : Int) : Prop := (ab ≤ 0 → bc ≤ 0 → ac ≤ 0 ∧ (ac = 0 ↔ ab = 0 ∧ bc = 0)) ∧ (0 ≤ ab → 0 ≤ bc → 0 ≤ ac ∧ (ac = 0 ↔ ab = 0 ∧ bc = 0))
theorem lex_chained (a b c : List Nat) : Chained (lex a b) (lex b c) (lex a c) := by
  have key : ∀ a b c, lex a b ≤ 0 → lex b c ≤ 0 → lex a c ≤ 0 ∧ (lex a c = 0 ↔ lex a b = 0 ∧ lex b c = 0) := by
    intro a b c h1 h2
    refine ⟨lex_trans a b c h1 h2, fun h => ?_, fun h => ?_⟩
    · have e := lex_eq h
      subst e
      have := lex_anti a b
      have r := lex_range a b
      omega
    · rw [lex_eq h.1, lex_eq h.2, lex_self]
  refine ⟨key a b c, fun h1 h2 => ?_⟩
  have r1 := lex_anti a b
  have r2 := lex_anti b c
  have r3 := lex_anti a c
  have := key c b a (by omega) (by omega)
  omega
theorem lex_cons (x : Nat) (a b : List Nat) : lex (x :: a) (x :: b) = lex a b := by
  rw [lex, if_neg (by omega), if_neg (by omega)]
theorem lex_lt {x y : Nat} (h : x < y) (a b : List Nat) : lex (x :: a) (y :: b) = -1 := by
  rw [lex, if_pos h]
theorem lex_gt {x y : Nat} (h : y < x) (a b : List Nat) : lex (x :: a) (y :: b) = 1 := by
  rw [lex, if_neg (by omega), if_pos h]
/-- Two texts of one length, then more. -/
theorem lex_bytes (x : List UInt8) : ∀ (y : List UInt8) (a b : List Nat), x.length = y.length → lex (x.map (·.toNat) ++ a) (y.map (·.toNat) ++ b) = if Lib.compareBytes x y = 0 then lex a b else Lib.compareBytes x y := by
  induction x with
  | nil =>
    intro y a b h
    have : y = [] := List.length_eq_zero_iff.1 (by simpa using h.symm)
    subst this
    simp [Lib.compareBytes]
  | cons c x ih =>
    intro y a b h
    cases y with
    | nil => simp at h
    | cons d y =>
      have h2 : x.length = y.length := by simpa using h
      simp only [List.map_cons, List.cons_append]
      rw [lex, Lib.compareBytes]
      by_cases e : c < d
      · rw [if_pos (UInt8.lt_iff_toNat_lt.1 e), if_pos e]; rfl
      · have e' : ¬ c.toNat < d.toNat := fun h => e (UInt8.lt_iff_toNat_lt.2 h)
        rw [if_neg e', if_neg e]
        by_cases f : d < c
        · rw [if_pos (UInt8.lt_iff_toNat_lt.1 f), if_pos f]; rfl
        · have f' : ¬ d.toNat < c.toNat := fun h => f (UInt8.lt_iff_toNat_lt.2 h)
          rw [if_neg f', if_neg f, ih y a b h2]
/-- Two texts, each with an end behind it, then more. -/
theorem lex_words (x : List UInt8) : ∀ (y : List UInt8) (a b : List Nat), lex (x.map (·.toNat + 1) ++ 0 :: a) (y.map (·.toNat + 1) ++ 0 :: b) = if Lib.compareBytes x y = 0 then lex a b else Lib.compareBytes x y := by
  induction x with
  | nil =>
    intro y a b
    cases y with
    | nil => simp [Lib.compareBytes, lex_cons]
    | cons d y => simp [Lib.compareBytes, lex]
  | cons c x ih =>
    intro y a b
    cases y with
    | nil => simp [Lib.compareBytes, lex]
    | cons d y =>
      simp only [List.map_cons, List.cons_append]
      rw [lex, Lib.compareBytes]
      by_cases e : c < d
      · rw [if_pos (by have := UInt8.lt_iff_toNat_lt.1 e; omega), if_pos e]; rfl
      · have e' : ¬ c.toNat < d.toNat := fun h => e (UInt8.lt_iff_toNat_lt.2 h)
        rw [if_neg (by omega), if_neg e]
        by_cases f : d < c
        · rw [if_pos (by have := UInt8.lt_iff_toNat_lt.1 f; omega), if_pos f]; rfl
        · have f' : ¬ d.toNat < c.toNat := fun h => f (UInt8.lt_iff_toNat_lt.2 h)
          rw [if_neg (by omega), if_neg f, ih y a b]
/-- Two comparisons, the first that is not 0 telling. -/
def comb (a b : Int) : Int := if a = 0 then b else a
def NoCh (ab bc ac : Int) : Prop := ¬ (ab ≤ 0 ∧ bc ≤ 0 ∧ (0 < ac ∨ (ac = 0 ∧ (ab ≠ 0 ∨ bc ≠ 0)) ∨ (ac ≠ 0 ∧ ab = 0 ∧ bc = 0))) ∧ ¬ (0 ≤ ab ∧ 0 ≤ bc ∧ (ac < 0 ∨ (ac = 0 ∧ (ab ≠ 0 ∨ bc ≠ 0)) ∨ (ac ≠ 0 ∧ ab = 0 ∧ bc = 0)))
theorem Chained.no {ab bc ac : Int} (h : Chained ab bc ac) : NoCh ab bc ac := by
  constructor
  · rintro ⟨h1, h2, h3⟩
    obtain ⟨k1, k2⟩ := h.1 h1 h2
    omega
  · rintro ⟨h1, h2, h3⟩
    obtain ⟨k1, k2⟩ := h.2 h1 h2
    omega
theorem Chained.of {ab bc ac : Int} (h : NoCh ab bc ac) : Chained ab bc ac := by
  obtain ⟨k1, k2⟩ := h
  constructor
  · intro h1 h2
    constructor
    · omega
    · constructor
      · intro h3; omega
      · intro h3; omega
  · intro h1 h2
    constructor
    · omega
    · constructor
      · intro h3; omega
      · intro h3; omega
theorem NoCh.cases {a b c : Int} (h : NoCh a b c) : (a = 0 → (b < 0 → c < 0) ∧ (b = 0 → c = 0) ∧ (0 < b → 0 < c)) ∧ (b = 0 → (a < 0 → c < 0) ∧ (0 < a → 0 < c)) ∧ (a < 0 → b < 0 → c < 0) ∧ (0 < a → 0 < b → 0 < c) := by
  obtain ⟨h1, h2⟩ := h
  refine ⟨fun ha => ⟨fun hb => ?_, fun hb => ?_, fun hb => ?_⟩, fun hb => ⟨fun ha => ?_, fun ha => ?_⟩, fun ha hb => ?_, fun ha hb => ?_⟩ <;> omega
theorem NoCh.of_cases {a b c : Int} (h1 : a = 0 → b < 0 → c < 0) (h2 : a = 0 → b = 0 → c = 0) (h3 : a = 0 → 0 < b → 0 < c) (h4 : b = 0 → a < 0 → c < 0) (h5 : b = 0 → 0 < a → 0 < c) (h6 : a < 0 → b < 0 → c < 0) (h7 : 0 < a → 0 < b → 0 < c) : NoCh a b c := by
  rcases Int.lt_trichotomy a 0 with ha | ha | ha <;> rcases Int.lt_trichotomy b 0 with hb | hb | hb
  · have := h6 ha hb; unfold NoCh; omega
  · have := h4 hb ha; unfold NoCh; omega
  · unfold NoCh; omega
  · have := h1 ha hb; unfold NoCh; omega
  · have := h2 ha hb; unfold NoCh; omega
  · have := h3 ha hb; unfold NoCh; omega
  · unfold NoCh; omega
  · have := h5 hb ha; unfold NoCh; omega
  · have := h7 ha hb; unfold NoCh; omega
theorem comb_zero {a b : Int} (h : a = 0) : comb a b = b := if_pos h
theorem comb_left {a b : Int} (h : a ≠ 0) : comb a b = a := if_neg h
theorem comb_chained {ab bc ac ab' bc' ac' : Int} (h : Chained ab bc ac) (h' : Chained ab' bc' ac') : Chained (comb ab ab') (comb bc bc') (comb ac ac') := by
  obtain ⟨p1, p2, p3, p4⟩ := h.no.cases
  have k' := h'.no
  refine Chained.of ?_
  rcases Int.lt_trichotomy ab 0 with ha | ha | ha <;> rcases Int.lt_trichotomy bc 0 with hb | hb | hb
  · have := p3 ha hb
    rw [comb_left (by omega), comb_left (by omega), comb_left (by omega)]
    exact h.no
  · have := (p2 hb).1 ha
    rw [comb_left (a := ab) (by omega), comb_zero hb, comb_left (a := ac) (by omega)]
    exact NoCh.of_cases (by omega) (by omega) (by omega) (by omega) (by omega) (by omega) (by omega)
  · rw [comb_left (a := ab) (by omega), comb_left (a := bc) (by omega)]
    exact NoCh.of_cases (by omega) (by omega) (by omega) (by omega) (by omega) (by omega) (by omega)
  · have := (p1 ha).1 hb
    rw [comb_zero ha, comb_left (a := bc) (by omega), comb_left (a := ac) (by omega)]
    exact NoCh.of_cases (by omega) (by omega) (by omega) (by omega) (by omega) (by omega) (by omega)
  · have := (p1 ha).2.1 hb
    rw [comb_zero ha, comb_zero hb, comb_zero this]
    exact k'
  · have := (p1 ha).2.2 hb
    rw [comb_zero ha, comb_left (a := bc) (by omega), comb_left (a := ac) (by omega)]
    exact NoCh.of_cases (by omega) (by omega) (by omega) (by omega) (by omega) (by omega) (by omega)
  · rw [comb_left (a := ab) (by omega), comb_left (a := bc) (by omega)]
    exact NoCh.of_cases (by omega) (by omega) (by omega) (by omega) (by omega) (by omega) (by omega)
  · have := (p2 hb).2 ha
    rw [comb_left (a := ab) (by omega), comb_zero hb, comb_left (a := ac) (by omega)]
    exact NoCh.of_cases (by omega) (by omega) (by omega) (by omega) (by omega) (by omega) (by omega)
  · have := p4 ha hb
    rw [comb_left (by omega), comb_left (by omega), comb_left (by omega)]
    exact h.no
end Go.Proofs.YtmhlmkefnmdbcaaDoor.Lx
