/- What numTidy and intOrder answer: numbers compare by their values. -/
import Derived.Test.YtciojhhncfnagaaDoorZ1
import Derived.Test.YtciojhhncfnagaaDoorZ2
import Derived.Test.YtciojhhncfnagaaDoorBv
namespace Go.Proofs.YtciojhhncfnagaaDoor.Cw
open Go Go.RowKit Go.Proofs.YtciojhhncfnagaaDoor.Z Go.Proofs.YtciojhhncfnagaaDoor.Evs Go.Proofs.YtciojhhncfnagaaDoor.By Go.Proofs.YtciojhhncfnagaaDoor.Bv Go.Proofs.YtciojhhncfnagaaDoorW.PrintWords Go.Proofs.YtciojhhncfnagaaDoorW.PrintLast
set_option linter.unusedVariables false
set_option linter.unusedSimpArgs false

/-- A number by its sign and magnitude. -/
def zv (neg : Bool) (l : List UInt8) : Int := if neg then -beV l else beV l
def tidyL (l : List UInt8) : List UInt8 := l.dropWhile (· == 0)
theorem tidy_val (l : List UInt8) : beV (tidyL l) = beV l := by
  induction l with
  | nil => rfl
  | cons c l ih =>
    unfold tidyL
    rw [List.dropWhile_cons]
    split
    · rename_i h
      have h0 : c = 0 := by simpa using h
      subst h0
      rw [show List.dropWhile (fun x => x == 0) l = tidyL l from rfl, ih, beV]
      have : ((0 : UInt8).toNat : Int) = 0 := rfl
      rw [this, Int.zero_mul, Int.zero_add]
    · rfl
theorem tidy_head (l : List UInt8) (c : UInt8) (r : List UInt8) (h : tidyL l = c :: r) : 1 ≤ c.toNat := by
  induction l with
  | nil => simp [tidyL] at h
  | cons x l ih =>
    unfold tidyL at h
    rw [List.dropWhile_cons] at h
    split at h
    · exact ih h
    · rename_i hx
      obtain ⟨rfl, _⟩ := List.cons.inj h
      rcases Nat.eq_zero_or_pos x.toNat with h0 | h0
      · exact absurd (by simpa using UInt8.toNat_inj.1 (show x.toNat = (0 : UInt8).toNat from h0)) hx
      · exact h0
theorem tidy_le (l : List UInt8) : (tidyL l).length ≤ l.length := by
  induction l with
  | nil => simp [tidyL]
  | cons c l ih =>
    unfold tidyL
    rw [List.dropWhile_cons]
    split
    · have : (tidyL l).length ≤ l.length := ih
      simp only [List.length_cons]
      exact Nat.le_succ_of_le this
    · simp
theorem isEmpty_ofL (l : List UInt8) : (ofL l).toList.isEmpty = l.isEmpty := by rw [toList_ofL]
theorem tidy_l (neg : Bool) (n : Nat) : ∀ l : List UInt8, l.length = n → n ≤ 140737488351232 → Ev (fun k => spec_numTidy.l0 k neg (ofL l)) (neg && !(tidyL l).isEmpty, ofL (tidyL l)) := by
  induction n with
  | zero =>
    intro l h hl
    have : l = [] := List.length_eq_zero_iff.1 h
    subst this
    refine Ev.step (fun _ => by rw [spec_numTidy.l0]) (ev_neg (by rw [ofL_size]; simp) ?_)
    cases neg with
    | true => exact ev_t (ev_now (by rw [isEmpty_ofL]; rfl))
    | false => exact ev_f (ev_now rfl)
  | succ n ih =>
    intro l h hl
    obtain ⟨c, r, rfl⟩ : ∃ c r, l = c :: r := by
      cases l with
      | nil => simp at h
      | cons c r => exact ⟨c, r, rfl⟩
    have hb : bt (ofL (c :: r)) 0 = (c.toNat : Int) := bt_ofL (c :: r) 0 (by simp)
    have hs := ofL_size (c :: r)
    have hx : (ofL (c :: r)).extract 1 (ofL (c :: r)).size = ofL r := by rw [hs, ofL_extract, List.take_of_length_le (Nat.le_refl _)]; rfl
    refine Ev.step (fun _ => by rw [spec_numTidy.l0, hb, hx]) (ev_pos (by omega) (ev_pos (by omega) ?_))
    by_cases h0 : c = 0
    · subst h0
      refine ev_pos rfl (ev_pos (by omega) ?_)
      exact ih r (by simpa using h) (by omega)
    · have hne : ¬ (c.toNat : Int) = 0 := fun hh => h0 (UInt8.toNat_inj.1 (show c.toNat = (0 : UInt8).toNat by have : (0 : UInt8).toNat = 0 := rfl; omega))
      have ht : tidyL (c :: r) = c :: r := by
        unfold tidyL
        rw [List.dropWhile_cons, if_neg (by simpa using h0)]
      rw [ht]
      refine ev_neg hne ?_
      cases neg with
      | true => exact ev_t (ev_now (by rw [isEmpty_ofL]; rfl))
      | false => exact ev_f (ev_now rfl)
theorem tidy_ev (neg : Bool) (l : List UInt8) (hl : l.length ≤ 140737488351232) : Ev (fun k => spec_numTidy.f k neg (ofL l)) (neg && !(tidyL l).isEmpty, ofL (tidyL l)) := tidy_l neg l.length l rfl hl
theorem less_val : ∀ a b : List UInt8, a.length = b.length → (Op.bytesLess a b = true ↔ beV a < beV b)
  | [], [], _ => by simp [Op.bytesLess, beV]
  | [], _ :: _, h => by simp at h
  | _ :: _, [], h => by simp at h
  | x :: a, y :: b, h => by
    have hl : a.length = b.length := by simpa using h
    have ih := less_val a b hl
    have ha := beV_lt a
    have hb := beV_lt b
    have na := beV_nonneg a
    have nb := beV_nonneg b
    unfold beV
    rw [hl] at ha ⊢
    simp only [Op.bytesLess, Bool.or_eq_true, Bool.and_eq_true, decide_eq_true_eq, beq_iff_eq, ih]
    have hP := pow256_pos b.length
    rcases Nat.lt_trichotomy x.toNat y.toNat with h1 | h1 | h1
    · have hlt : x < y := h1
      have := mul_step hP (show (x.toNat : Int) + 1 ≤ (y.toNat : Int) by omega)
      exact ⟨fun _ => by omega, fun _ => .inl hlt⟩
    · have e : x = y := UInt8.toNat_inj.1 h1
      subst e
      have hn : ¬ x < x := fun h' => by have h' : x.toNat < x.toNat := h'; omega
      constructor
      · rintro (h' | ⟨_, h'⟩)
        · exact absurd h' hn
        · omega
      · intro h'
        exact .inr ⟨rfl, by omega⟩
    · have hn : ¬ x < y := fun h' => by have h' : x.toNat < y.toNat := h'; omega
      have hne : ¬ x = y := fun e => by subst e; omega
      have := mul_step hP (show (y.toNat : Int) + 1 ≤ (x.toNat : Int) by omega)
      constructor
      · rintro (h' | ⟨h', _⟩)
        · exact absurd h' hn
        · exact absurd h' hne
      · intro h'
        omega
theorem order_val (a b : List UInt8) (h : a.length = b.length) : spec_order.f (ofL a) (ofL b) = some (cmpZ (beV a) (beV b)) := by
  unfold spec_order.f cmpZ
  rw [toList_ofL, toList_ofL]
  by_cases h1 : beV a < beV b
  · rw [if_pos ((less_val a b h).2 h1), if_pos h1]
  · rw [if_neg (fun h' => h1 ((less_val a b h).1 h')), if_neg h1]
    by_cases h2 : beV b < beV a
    · rw [if_pos ((less_val b a h.symm).2 h2), if_pos h2]
    · rw [if_neg (fun h' => h2 ((less_val b a h.symm).1 h')), if_neg h2]
theorem len_val (a b : List UInt8) (h : a.length < b.length) (c : UInt8) (r : List UInt8) (hb : b = c :: r) (hc : 1 ≤ c.toNat) : beV a < beV b := by
  subst hb
  have h1 := beV_lt a
  have h2 := beV_nonneg r
  have h3 : (256 : Int) ^ a.length ≤ 256 ^ r.length := by
    have : (256 : Nat) ^ a.length ≤ 256 ^ r.length := Nat.pow_le_pow_right (by decide) (by simp at h; omega)
    have e2 : ((256 ^ a.length : Nat) : Int) ≤ ((256 ^ r.length : Nat) : Int) := Int.ofNat_le.2 this
    rwa [Int.natCast_pow, Int.natCast_pow] at e2
  have h4 : 1 * (256 : Int) ^ r.length ≤ (c.toNat : Int) * 256 ^ r.length := Int.mul_le_mul_of_nonneg_right (by omega) (by have := pow256_pos r.length; omega)
  rw [show beV (c :: r) = (c.toNat : Int) * 256 ^ r.length + beV r from rfl]
  omega
theorem orderInts_f (a b : Int) : spec_orderInts.f a b = some (cmpZ a b) := by
  unfold spec_orderInts.f cmpZ
  split
  · rfl
  · split
    · rfl
    · rfl
theorem cmpZ_same {a b c d : Int} (h1 : a < b ↔ c < d) (h2 : b < a ↔ d < c) : cmpZ a b = cmpZ c d := by
  unfold cmpZ
  by_cases x : a < b
  · rw [if_pos x, if_pos (h1.1 x)]
  · rw [if_neg x, if_neg (fun h => x (h1.2 h))]
    by_cases y : b < a
    · rw [if_pos y, if_pos (h2.1 y)]
    · rw [if_neg y, if_neg (fun h => y (h2.2 h))]
theorem j2_ev (n0 n1 : Bool) (a b : List UInt8) : Ev (fun k => spec_intOrder.j2 k n0 (ofL (tidyL a)) n1 (ofL (tidyL b))) (cmpZ (beV a) (beV b)) := by
  have va := tidy_val a
  have vb := tidy_val b
  refine Ev.step (fun _ => by rw [spec_intOrder.j2, ofL_size, ofL_size]) ?_
  by_cases h : (tidyL a).length = (tidyL b).length
  · refine ev_pos (by omega) ?_
    rw [order_val _ _ h, va, vb]
    exact ev_now rfl
  · refine ev_neg (by omega) ?_
    rw [orderInts_f]
    refine ev_now ?_
    by_cases h1 : (tidyL a).length < (tidyL b).length
    · obtain ⟨c, r, hb⟩ : ∃ c r, tidyL b = c :: r := by
        cases hx : tidyL b with
        | nil => rw [hx] at h1; simp at h1
        | cons c r => exact ⟨c, r, rfl⟩
      have := len_val _ _ h1 c r hb (tidy_head b c r hb)
      exact cmpZ_same (by omega) (by omega)
    · obtain ⟨c, r, ha⟩ : ∃ c r, tidyL a = c :: r := by
        cases hx : tidyL a with
        | nil => rw [hx, List.length_nil] at h h1; omega
        | cons c r => exact ⟨c, r, rfl⟩
      have := len_val (tidyL b) (tidyL a) (by omega) c r ha (tidy_head a c r ha)
      exact cmpZ_same (by omega) (by omega)
theorem tidy_empty {l : List UInt8} (h : (tidyL l).isEmpty = true) : beV l = 0 := by
  rw [← tidy_val, List.isEmpty_iff.1 h]
  rfl
theorem tidy_full {l : List UInt8} (h : (tidyL l).isEmpty = false) : 1 ≤ beV l := by
  obtain ⟨c, r, hc⟩ : ∃ c r, tidyL l = c :: r := by
    cases hx : tidyL l with
    | nil => rw [hx] at h; simp at h
    | cons c r => exact ⟨c, r, rfl⟩
  have := len_val [] (tidyL l) (by rw [hc]; simp) c r hc (tidy_head l c r hc)
  rw [tidy_val] at this
  have e : beV [] = 0 := rfl
  omega
theorem intOrder_ev (n0 n1 : Bool) (a b : List UInt8) (ha : a.length ≤ 140737488351232) (hb : b.length ≤ 140737488351232) : Ev (fun k => spec_intOrder.f k n0 (ofL a) n1 (ofL b)) (cmpZ (zv n0 a) (zv n1 b)) := by
  unfold spec_intOrder.f
  refine Ev.bind (tidy_ev n0 a ha) (Ev.bind (tidy_ev n1 b hb) ?_)
  unfold zv
  have na := beV_nonneg a
  have nb := beV_nonneg b
  have step : ∀ x y : Bool, x = true → y = true → x = y := fun x y hx hy => hx.trans hy.symm
  cases h0 : (n0 && !(tidyL a).isEmpty) with
  | true =>
    obtain ⟨rfl, e0⟩ : n0 = true ∧ (tidyL a).isEmpty = false := by simpa using h0
    have pa := tidy_full e0
    refine ev_t ?_
    cases h1 : (n1 && !(tidyL b).isEmpty) with
    | true =>
      obtain ⟨rfl, e1⟩ : n1 = true ∧ (tidyL b).isEmpty = false := by simpa using h1
      refine Ev.step (fun _ => by rw [spec_intOrder.j0]) (ev_neg (by simp) (ev_t ?_))
      refine Ev.step (fun _ => by rw [spec_intOrder.j1]) (ev_f (ev_t ?_))
      refine ev_eq (j2_ev _ _ b a) ?_
      exact cmpZ_same (by first | (simp; done) | (simp; omega)) (by first | (simp; done) | (simp; omega))
    | false =>
      have hb0 : 0 ≤ (if n1 = true then -beV b else beV b) := by
        cases n1 with
        | false => simpa using nb
        | true =>
          have := tidy_empty (show (tidyL b).isEmpty = true by simpa using h1)
          rw [this]
          decide
      refine Ev.step (fun _ => by rw [spec_intOrder.j0]) (ev_pos (by simp) (ev_now ?_))
      unfold cmpZ
      rw [if_pos (by simp; omega)]
  | false =>
    have ha0 : (if n0 = true then -beV a else beV a) = beV a := by
      cases n0 with
      | false => rfl
      | true =>
        have := tidy_empty (show (tidyL a).isEmpty = true by simpa using h0)
        rw [this]
        rfl
    rw [ha0]
    refine ev_f (Ev.step (fun _ => by rw [spec_intOrder.j0]) (ev_f (ev_f ?_)))
    cases h1 : (n1 && !(tidyL b).isEmpty) with
    | true =>
      obtain ⟨rfl, e1⟩ : n1 = true ∧ (tidyL b).isEmpty = false := by simpa using h1
      have pb := tidy_full e1
      refine Ev.step (fun _ => by rw [spec_intOrder.j1]) (ev_t (ev_now ?_))
      unfold cmpZ
      rw [if_neg (by simp; omega), if_pos (by simp; omega)]
    | false =>
      have hb0 : (if n1 = true then -beV b else beV b) = beV b := by
        cases n1 with
        | false => rfl
        | true =>
          have := tidy_empty (show (tidyL b).isEmpty = true by simpa using h1)
          rw [this]
          rfl
      rw [hb0]
      exact Ev.step (fun _ => by rw [spec_intOrder.j1]) (ev_f (ev_f (j2_ev _ _ a b)))
end Go.Proofs.YtciojhhncfnagaaDoor.Cw
