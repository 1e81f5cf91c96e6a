/- Numbers in decimal and their magnitudes as bytes: plain Lean. -/
import Derived.Lib.Bytealg
import Derived.Test.YtkcciinapkeaiaaDoorBy
namespace Go.Proofs.YtkcciinapkeaiaaDoor.Bv
open Go Go.Proofs.YtkcciinapkeaiaaDoor.By
set_option linter.unusedVariables false
set_option linter.unusedSimpArgs false

/-- Bytes, the lowest first. -/
def leV : List Int → Int
  | [] => 0
  | b :: l => b + 256 * leV l
def Byt (m : List Int) : Prop := ∀ x ∈ m, 0 ≤ x ∧ x ≤ 255
theorem Byt.tail {x : Int} {m : List Int} (h : Byt (x :: m)) : Byt m := fun y hy => h y (by simp [hy])
theorem Byt.head {x : Int} {m : List Int} (h : Byt (x :: m)) : 0 ≤ x ∧ x ≤ 255 := h x (by simp)
/-- Ten times as much and a digit. -/
def mulA : List Int → Int → List Int
  | [], c => if 0 < c then [c] else []
  | x :: m, c => ((c + 10 * x) % 256) :: mulA m ((c + 10 * x) / 256)
theorem mulA_val : ∀ (m : List Int) (c : Int), Byt m → 0 ≤ c → c ≤ 9 → leV (mulA m c) = 10 * leV m + c
  | [], c, _, h0, h9 => by
    unfold mulA
    split
    · simp [leV]
    · have : c = 0 := by omega
      subst this
      rfl
  | x :: m, c, h, h0, h9 => by
    have hx := h.head
    rw [mulA, leV, leV, mulA_val m _ h.tail (by omega) (by omega)]
    omega
theorem mulA_byt : ∀ (m : List Int) (c : Int), Byt m → 0 ≤ c → c ≤ 9 → Byt (mulA m c)
  | [], c, _, h0, h9 => by
    unfold mulA
    intro y hy
    split at hy
    · simp at hy
      omega
    · cases hy
  | x :: m, c, h, h0, h9 => by
    have hx := h.head
    intro y hy
    rw [mulA, List.mem_cons] at hy
    rcases hy with rfl | hy
    · omega
    · exact mulA_byt m _ h.tail (by omega) (by omega) y hy
theorem mulA_ok : ∀ (m : List Int) (c : Int), Byt m → 0 ≤ c → c ≤ 9 → m.getLast? ≠ some 0 → (mulA m c).getLast? ≠ some 0
  | [], c, _, h0, h9, _ => by
    unfold mulA
    split
    · simp
      omega
    · simp
  | [x], c, h, h0, h9, hl => by
    have hx := h.head
    have hx0 : x ≠ 0 := fun e => hl (by rw [e]; rfl)
    unfold mulA mulA
    split
    · simp
      omega
    · simp
      omega
  | x :: y :: m, c, h, h0, h9, hl => by
    have hx := h.head
    have ih := mulA_ok (y :: m) ((c + 10 * x) / 256) h.tail (by omega) (by omega) (by rw [List.getLast?_cons_cons] at hl; exact hl)
    rw [mulA]
    have hne : mulA (y :: m) ((c + 10 * x) / 256) ≠ [] := by rw [mulA]; simp
    obtain ⟨z, t, hz⟩ : ∃ z t, mulA (y :: m) ((c + 10 * x) / 256) = z :: t := by
      cases hq : mulA (y :: m) ((c + 10 * x) / 256) with
      | nil => exact absurd hq hne
      | cons z t => exact ⟨z, t, rfl⟩
    rw [hz] at ih ⊢
    rw [List.getLast?_cons_cons]
    exact ih
theorem mulA_len : ∀ (m : List Int) (c : Int), (mulA m c).length ≤ m.length + 1
  | [], c => by
    unfold mulA
    split <;> simp
  | x :: m, c => by
    have := mulA_len m ((c + 10 * x) / 256)
    rw [mulA, List.length_cons, List.length_cons]
    omega
/-- A digit's worth. -/
def dv (c : UInt8) : Int := (c.toNat : Int) - 48
theorem dv_range {c : UInt8} (h : dg c = true) : 0 ≤ dv c ∧ dv c ≤ 9 := by
  have : 48 ≤ c.toNat ∧ c.toNat ≤ 57 := by simpa [dg] using h
  unfold dv
  omega
/-- What digits write. -/
def decV : List UInt8 → Int
  | [] => 0
  | c :: l => dv c * 10 ^ l.length + decV l
theorem decV_snoc (c : UInt8) : ∀ (l : List UInt8), decV (l ++ [c]) = 10 * decV l + dv c
  | [] => by simp [decV]
  | x :: l => by
    rw [List.cons_append, decV, decV, decV_snoc c l, List.length_append, List.length_singleton, Int.pow_succ, Int.mul_add, ← Int.mul_assoc, Int.add_assoc, Int.mul_comm (dv x * 10 ^ l.length) 10]
/-- The magnitude of what digits write, the lowest byte first. -/
def magL (l : List UInt8) : List Int := l.foldl (fun m c => mulA m (dv c)) []
theorem magL_snoc (l : List UInt8) (c : UInt8) : magL (l ++ [c]) = mulA (magL l) (dv c) := by
  unfold magL
  rw [List.foldl_append]
  rfl
theorem mag_all : ∀ (n : Nat) (l : List UInt8), l.length = n → l.all dg = true → leV (magL l) = decV l ∧ Byt (magL l) ∧ (magL l).getLast? ≠ some 0 ∧ (magL l).length ≤ l.length
  | 0, l, h, _ => by
    have : l = [] := List.length_eq_zero_iff.1 h
    subst this
    exact ⟨rfl, (fun x hx => by cases hx), by simp [magL], by simp [magL]⟩
  | n + 1, l, h, hd => by
    have hne : l ≠ [] := fun e => by rw [e] at h; simp at h
    have e := List.dropLast_concat_getLast hne
    obtain ⟨a, c, hac⟩ : ∃ a c, l = a ++ [c] := ⟨_, _, e.symm⟩
    subst hac
    rw [List.all_append, Bool.and_eq_true] at hd
    have hc : dg c = true := by simpa using hd.2
    have hr := dv_range hc
    obtain ⟨i1, i2, i3, i4⟩ := mag_all n a (by simpa using h) hd.1
    have hlen := mulA_len (magL a) (dv c)
    rw [magL_snoc]
    refine ⟨?_, mulA_byt _ _ i2 hr.1 hr.2, mulA_ok _ _ i2 hr.1 hr.2 i3, ?_⟩
    · rw [mulA_val _ _ i2 hr.1 hr.2, i1, decV_snoc]
    · rw [List.length_append, List.length_singleton]
      omega
/-- The number that bytes are, the highest one first. -/
def beV : List UInt8 → Int
  | [] => 0
  | c :: l => (c.toNat : Int) * 256 ^ l.length + beV l
theorem leV_append : ∀ (a b : List Int), leV (a ++ b) = leV a + 256 ^ a.length * leV b
  | [], b => by rw [List.nil_append, List.length_nil, Int.pow_zero, Int.one_mul, leV, Int.zero_add]
  | x :: a, b => by
    rw [List.cons_append, leV, leV_append a b, leV, List.length_cons, Int.pow_succ, Int.mul_add, ← Int.mul_assoc, Int.add_assoc, Int.mul_comm (256 ^ a.length) 256]
theorem beV_le (l : List UInt8) : leV (numsOf l).reverse = beV l := by
  induction l with
  | nil => rfl
  | cons c l ih =>
    have e : numsOf (c :: l) = (c.toNat : Int) :: numsOf l := rfl
    rw [e, List.reverse_cons, leV_append, ih, List.length_reverse, numsOf_length, beV, leV, leV, Int.mul_zero, Int.add_zero, Int.add_comm, Int.mul_comm]
theorem pow256_pos (n : Nat) : (1 : Int) ≤ 256 ^ n := by
  have : 0 < (256 : Nat) ^ n := Nat.pow_pos (by decide)
  have e2 : ((256 ^ n : Nat) : Int) ≥ 1 := by omega
  rwa [Int.natCast_pow] at e2
theorem beV_nonneg (l : List UInt8) : 0 ≤ beV l := by
  induction l with
  | nil => exact Int.le_refl _
  | cons c l ih =>
    unfold beV
    have := Int.mul_nonneg (show (0 : Int) ≤ (c.toNat : Int) by omega) (show (0 : Int) ≤ 256 ^ l.length by have := pow256_pos l.length; omega)
    omega
theorem beV_lt (l : List UInt8) : beV l + 1 ≤ 256 ^ l.length := by
  induction l with
  | nil => rw [beV, List.length_nil, Int.pow_zero]; omega
  | cons c l ih =>
    unfold beV
    have hc := c.toNat_lt
    have h1 : (c.toNat : Int) * 256 ^ l.length ≤ 255 * 256 ^ l.length := Int.mul_le_mul_of_nonneg_right (by omega) (by have := pow256_pos l.length; omega)
    rw [List.length_cons, Int.pow_succ]
    omega
theorem mul_step {P x y : Int} (hP : 1 ≤ P) (h : x + 1 ≤ y) : x * P + P ≤ y * P := by
  have := Int.mul_le_mul_of_nonneg_right h (show (0 : Int) ≤ P by omega)
  rw [Int.add_mul, Int.one_mul] at this
  exact this
def magB (l : List UInt8) : List UInt8 := (magL l).reverse.map fun x => UInt8.ofNat x.toNat
theorem numsOf_back (m : List Int) (h : Byt m) : numsOf (m.map fun x => UInt8.ofNat x.toNat) = m := by
  unfold numsOf
  rw [List.map_map]
  conv => rhs; rw [← List.map_id m]
  apply List.map_congr_left
  intro x hx
  have := h x hx
  show (((UInt8.ofNat x.toNat).toNat : Nat) : Int) = x
  have e : (UInt8.ofNat x.toNat).toNat = x.toNat % 2 ^ 8 := UInt8.toNat_ofNat'
  rw [e]
  omega
theorem magB_nums (l : List UInt8) (h : l.all dg = true) : numsOf (magB l) = (magL l).reverse :=
  numsOf_back _ (fun x hx => (mag_all l.length l rfl h).2.1 x (List.mem_reverse.1 hx))
theorem magB_val (l : List UInt8) (h : l.all dg = true) : beV (magB l) = decV l := by
  rw [← beV_le, magB_nums l h, List.reverse_reverse, (mag_all l.length l rfl h).1]
theorem magB_len (l : List UInt8) (h : l.all dg = true) : (magB l).length ≤ l.length := by
  unfold magB
  rw [List.length_map, List.length_reverse]
  exact (mag_all l.length l rfl h).2.2.2
/-- How two numbers compare. -/
def cmpZ (a b : Int) : Int := if a < b then -1 else if b < a then 1 else 0
/-! decimal digits by their length, then by their bytes -/
end Go.Proofs.YtkcciinapkeaiaaDoor.Bv
