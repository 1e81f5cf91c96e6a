/- Numbers in decimal and their magnitudes as bytes: plain Lean. -/
import Derived.Lib.Bytealg
import Derived.Test.YtipfmkfpaglkkaaGreatDoorBy
namespace Go.Proofs.YtipfmkfpaglkkaaGreatDoor.Bv
open Go Go.Proofs.YtipfmkfpaglkkaaGreatDoor.By
set_option linter.unusedVariables false
set_option linter.unusedSimpArgs false

/-- Bytes, the lowest first. -/
def leV : List Int → Int
  | [] => 0
  | b :: l => b + 256 * leV l
def Byt (m : List Int) : Prop := ∀ x ∈ m, 0 ≤ x ∧ x ≤ 255
theorem Byt.tail {x : Int} {m : List Int} (h : Byt (x :: m)) : Byt m := fun y hy => h y (by simp [hy])
theorem Byt.head {x : Int} {m : List Int} (h : Byt (x :: m)) : 0 ≤ x ∧ x ≤ 255 := h x (by simp)
/-- A digit's worth. -/
def dv (c : UInt8) : Int := (c.toNat : Int) - 48
theorem dv_range {c : UInt8} (h : dg c = true) : 0 ≤ dv c ∧ dv c ≤ 9 := by
  have : 48 ≤ c.toNat ∧ c.toNat ≤ 57 := by simpa [dg] using h
  unfold dv
  omega
/-- What digits write. -/
def decV : List UInt8 → Int
  | [] => 0
  | c :: l => dv c * 10 ^ l.length + decV l
theorem decV_snoc (c : UInt8) : ∀ (l : List UInt8), decV (l ++ [c]) = 10 * decV l + dv c
  | [] => by simp [decV]
  | x :: l => by
    rw [List.cons_append, decV, decV, decV_snoc c l, List.length_append, List.length_singleton, Int.pow_succ, Int.mul_add, ← Int.mul_assoc, Int.add_assoc, Int.mul_comm (dv x * 10 ^ l.length) 10]
theorem pow10_pos (n : Nat) : (1 : Int) ≤ 10 ^ n := by
  have : 0 < (10 : Nat) ^ n := Nat.pow_pos (by decide)
  have e2 : ((10 ^ n : Nat) : Int) ≥ 1 := by omega
  rwa [Int.natCast_pow] at e2
theorem decV_bounds : ∀ (l : List UInt8), l.all dg = true → 0 ≤ decV l ∧ decV l + 1 ≤ 10 ^ l.length
  | [], _ => by simp [decV]
  | c :: l, h => by
    simp only [List.all_cons, Bool.and_eq_true] at h
    have ih := decV_bounds l h.2
    have hc := dv_range h.1
    have hp := pow10_pos l.length
    have h1 : dv c * 10 ^ l.length ≤ 9 * 10 ^ l.length := Int.mul_le_mul_of_nonneg_right hc.2 (by omega)
    have h0 : 0 ≤ dv c * 10 ^ l.length := Int.mul_nonneg hc.1 (by omega)
    rw [decV, List.length_cons, Int.pow_succ]
    omega
/-- The number that bytes are, the highest one first. -/
def beV : List UInt8 → Int
  | [] => 0
  | c :: l => (c.toNat : Int) * 256 ^ l.length + beV l
theorem leV_append : ∀ (a b : List Int), leV (a ++ b) = leV a + 256 ^ a.length * leV b
  | [], b => by rw [List.nil_append, List.length_nil, Int.pow_zero, Int.one_mul, leV, Int.zero_add]
  | x :: a, b => by
    rw [List.cons_append, leV, leV_append a b, leV, List.length_cons, Int.pow_succ, Int.mul_add, ← Int.mul_assoc, Int.add_assoc, Int.mul_comm (256 ^ a.length) 256]
theorem beV_le (l : List UInt8) : leV (numsOf l).reverse = beV l := by
  induction l with
  | nil => rfl
  | cons c l ih =>
    have e : numsOf (c :: l) = (c.toNat : Int) :: numsOf l := rfl
    rw [e, List.reverse_cons, leV_append, ih, List.length_reverse, numsOf_length, beV, leV, leV, Int.mul_zero, Int.add_zero, Int.add_comm, Int.mul_comm]
theorem pow256_pos (n : Nat) : (1 : Int) ≤ 256 ^ n := by
  have : 0 < (256 : Nat) ^ n := Nat.pow_pos (by decide)
  have e2 : ((256 ^ n : Nat) : Int) ≥ 1 := by omega
  rwa [Int.natCast_pow] at e2
theorem beV_nonneg (l : List UInt8) : 0 ≤ beV l := by
  induction l with
  | nil => exact Int.le_refl _
  | cons c l ih =>
    unfold beV
    have := Int.mul_nonneg (show (0 : Int) ≤ (c.toNat : Int) by omega) (show (0 : Int) ≤ 256 ^ l.length by have := pow256_pos l.length; omega)
    omega
theorem beV_lt (l : List UInt8) : beV l + 1 ≤ 256 ^ l.length := by
  induction l with
  | nil => rw [beV, List.length_nil, Int.pow_zero]; omega
  | cons c l ih =>
    unfold beV
    have hc := c.toNat_lt
    have h1 : (c.toNat : Int) * 256 ^ l.length ≤ 255 * 256 ^ l.length := Int.mul_le_mul_of_nonneg_right (by omega) (by have := pow256_pos l.length; omega)
    rw [List.length_cons, Int.pow_succ]
    omega
theorem mul_step {P x y : Int} (hP : 1 ≤ P) (h : x + 1 ≤ y) : x * P + P ≤ y * P := by
  have := Int.mul_le_mul_of_nonneg_right h (show (0 : Int) ≤ P by omega)
  rw [Int.add_mul, Int.one_mul] at this
  exact this
/-- How two numbers compare. -/
def cmpZ (a b : Int) : Int := if a < b then -1 else if b < a then 1 else 0
/-! decimal digits by their length, then by their bytes -/
def strip (l : List UInt8) : List UInt8 := l.dropWhile (· == 48)
theorem strip_val (l : List UInt8) : decV (strip l) = decV l := by
  induction l with
  | nil => rfl
  | cons c l ih =>
    unfold strip
    rw [List.dropWhile_cons]
    split
    · rename_i h
      have h0 : c = 48 := by simpa using h
      subst h0
      rw [show List.dropWhile (fun x => x == 48) l = strip l from rfl, ih, decV]
      have : dv 48 = 0 := rfl
      rw [this, Int.zero_mul, Int.zero_add]
    · rfl
theorem strip_all (l : List UInt8) (h : l.all dg = true) : (strip l).all dg = true := by
  rw [List.all_eq_true] at *
  exact fun c hc => h c ((List.dropWhile_sublist _).subset hc)
theorem strip_head (l : List UInt8) (c : UInt8) (r : List UInt8) (h : strip l = c :: r) (hd : l.all dg = true) : 1 ≤ dv c := by
  have h1 := List.head_dropWhile_not (· == 48) (l := l) (by rw [show l.dropWhile (· == 48) = c :: r from h]; simp)
  have hc : ¬ c = 48 := by
    have e : (l.dropWhile (· == 48)).head (by rw [show l.dropWhile (· == 48) = c :: r from h]; simp) = c := by simp [show l.dropWhile (· == 48) = c :: r from h]
    rw [e] at h1
    simpa using h1
  have hs := strip_all l hd
  rw [h, List.all_cons, Bool.and_eq_true] at hs
  have hr := dv_range hs.1
  have : dv c ≠ 0 := fun e => hc (UInt8.toNat_inj.1 (by unfold dv at e; have : (48 : UInt8).toNat = 48 := rfl; omega))
  omega
theorem dec_len {a b : List UInt8} (ha : a.all dg = true) (hb : b.all dg = true) (h : (strip a).length < (strip b).length) : decV a < decV b := by
  rw [← strip_val a, ← strip_val b]
  have sa := decV_bounds _ (strip_all a ha)
  cases hs : strip b with
  | nil => rw [hs] at h; simp at h
  | cons c r =>
    have hc := strip_head b c r hs hb
    rw [hs] at h
    have hr := strip_all b hb
    rw [hs, List.all_cons, Bool.and_eq_true] at hr
    have sr := decV_bounds r hr.2
    have h3 : (10 : Int) ^ (strip a).length ≤ 10 ^ r.length := by
      have : (10 : Nat) ^ (strip a).length ≤ 10 ^ r.length := Nat.pow_le_pow_right (by decide) (by simp at h; omega)
      have e2 : ((10 ^ (strip a).length : Nat) : Int) ≤ ((10 ^ r.length : Nat) : Int) := Int.ofNat_le.2 this
      rwa [Int.natCast_pow, Int.natCast_pow] at e2
    have h4 : 1 * (10 : Int) ^ r.length ≤ dv c * 10 ^ r.length := Int.mul_le_mul_of_nonneg_right hc (by have := pow10_pos r.length; omega)
    rw [show decV (c :: r) = dv c * 10 ^ r.length + decV r from rfl]
    omega
theorem dec_bytes : ∀ (a b : List UInt8), a.length = b.length → a.all dg = true → b.all dg = true → Lib.compareBytes a b = cmpZ (decV a) (decV b)
  | [], [], _, _, _ => rfl
  | [], _ :: _, h, _, _ => by simp at h
  | _ :: _, [], h, _, _ => by simp at h
  | x :: a, y :: b, h, ha, hb => by
    have hl : a.length = b.length := by simpa using h
    simp only [List.all_cons, Bool.and_eq_true] at ha hb
    have ba := decV_bounds a ha.2
    have bb := decV_bounds b hb.2
    have hP := pow10_pos b.length
    have ih := dec_bytes a b hl ha.2 hb.2
    rw [Lib.compareBytes, decV, decV]
    rw [hl] at ba ⊢
    by_cases h1 : x < y
    · have hlt : x.toNat < y.toNat := h1
      have := mul_step hP (show dv x + 1 ≤ dv y by unfold dv; omega)
      rw [if_pos h1, cmpZ, if_pos (by omega)]
    · rw [if_neg h1]
      by_cases h2 : y < x
      · have hlt : y.toNat < x.toNat := h2
        have := mul_step hP (show dv y + 1 ≤ dv x by unfold dv; omega)
        rw [if_pos h2, cmpZ, if_neg (by omega), if_pos (by omega)]
      · have e : x = y := UInt8.toNat_inj.1 (by have h : ¬ x.toNat < y.toNat := h1; have h2 : ¬ y.toNat < x.toNat := h2; omega)
        subst e
        rw [if_neg h2, ih]
        unfold cmpZ
        repeat' split
        all_goals omega
/-- Digits without the zeros ahead: the longer is the greater, else by bytes. -/
theorem dec_cmp (a b : List UInt8) (ha : a.all dg = true) (hb : b.all dg = true) :
    (if (strip a).length = (strip b).length then Lib.compareBytes (strip a) (strip b) else cmpZ ((strip a).length : Int) ((strip b).length : Int)) = cmpZ (decV a) (decV b) := by
  by_cases h : (strip a).length = (strip b).length
  · rw [if_pos h, dec_bytes _ _ h (strip_all a ha) (strip_all b hb), strip_val, strip_val]
  · rw [if_neg h]
    rcases Nat.lt_or_gt_of_ne h with h1 | h1
    · have := dec_len ha hb h1
      rw [cmpZ, if_pos (by omega), cmpZ, if_pos this]
    · have := dec_len hb ha h1
      rw [cmpZ, if_neg (by omega), if_pos (by omega), cmpZ, if_neg (by omega), if_pos this]
end Go.Proofs.YtipfmkfpaglkkaaGreatDoor.Bv
