/- Numbers out of bytes and words: plain Lean. -/
import Derived.Laws.Bits64b
import Derived.Test.YtgnkjjgbdlkidaaGreatDoorBg
namespace Go.Proofs.YtgnkjjgbdlkidaaGreatDoor.Bn
open Go Go.Proofs.YtgnkjjgbdlkidaaGreatDoor.Big
set_option linter.unusedVariables false
set_option linter.unusedSimpArgs false
/-- Bytes, the lowest first. -/
def leV : List Int → Int
  | [] => 0
  | b :: l => b + 256 * leV l
/-- Word k of bytes, the lowest first. -/
def wd (rev : List Int) (k : Nat) : Int := leV ((rev.drop (8 * k)).take 8)
def words (rev : List Int) (n : Nat) : List Int := (List.range n).map (wd rev)
/-- Words without zeros behind. -/
def normLen (xs : List Int) : Nat → Nat
  | 0 => 0
  | i + 1 => if xs.getD i 0 = 0 then normLen xs i else i + 1
theorem normLen_le (xs : List Int) : ∀ i, normLen xs i ≤ i
  | 0 => Nat.le_refl _
  | i + 1 => by
    unfold normLen
    split
    · exact Nat.le_succ_of_le (normLen_le xs i)
    · exact Nat.le_refl _
theorem natW_append : ∀ (a b : List Int), natW (a ++ b) = natW a + 18446744073709551616 ^ a.length * natW b
  | [], b => by rw [List.nil_append, List.length_nil, Int.pow_zero, Int.one_mul, natW, Int.zero_add]
  | x :: a, b => by
    rw [List.cons_append, natW, natW_append a b, natW, List.length_cons, Int.pow_succ, Int.mul_add, ← Int.mul_assoc, Int.add_assoc, Int.mul_comm (18446744073709551616 ^ a.length)]
theorem norm_val (xs : List Int) : ∀ i, i ≤ xs.length → natW (xs.take (normLen xs i)) = natW (xs.take i)
  | 0, _ => rfl
  | i + 1, h => by
    unfold normLen
    split
    · rename_i hz
      rw [norm_val xs i (by omega)]
      have e : xs.take (i + 1) = xs.take i ++ [xs[i]'(by omega)] := (List.take_append_getElem (by omega)).symm
      have hz2 : xs[i]'(by omega) = 0 := by
        rw [List.getD_eq_getElem?_getD, List.getElem?_eq_getElem (by omega)] at hz
        exact hz
      rw [e, hz2, natW_append]
      simp [natW]
    · rfl
theorem norm_ok (xs : List Int) (hx : ∀ x ∈ xs, 0 ≤ x ∧ x ≤ 18446744073709551615) : ∀ i, i ≤ xs.length → okW (xs.take (normLen xs i))
  | 0, _ => ⟨by simp [normLen], by simp [normLen]⟩
  | i + 1, h => by
    unfold normLen
    split
    · exact norm_ok xs hx i (by omega)
    · rename_i hz
      refine ⟨fun x hm => hx x (List.mem_of_mem_take hm), fun hl => hz ?_⟩
      have e : xs.take (i + 1) = xs.take i ++ [xs[i]'(by omega)] := (List.take_append_getElem (by omega)).symm
      rw [e, List.getLast?_append] at hl
      have : xs[i]'(by omega) = 0 := by simpa using hl
      rw [List.getD_eq_getElem?_getD, List.getElem?_eq_getElem (by omega)]
      exact this
theorem natW_nonneg : ∀ (l : List Int), (∀ x ∈ l, 0 ≤ x ∧ x ≤ 18446744073709551615) → 0 ≤ natW l
  | [], _ => Int.le_refl _
  | b :: l, h => by
    have h1 := h b (by simp)
    have h2 := natW_nonneg l (fun x hx => h x (by simp [hx]))
    unfold natW
    omega
theorem powB_pos (n : Nat) : (1 : Int) ≤ 18446744073709551616 ^ n := by
  have : 0 < (18446744073709551616 : Nat) ^ n := Nat.pow_pos (by decide)
  have e2 : ((18446744073709551616 ^ n : Nat) : Int) ≥ 1 := by omega
  rwa [Int.natCast_pow] at e2
theorem natW_lt : ∀ (l : List Int), (∀ x ∈ l, 0 ≤ x ∧ x ≤ 18446744073709551615) → natW l + 1 ≤ 18446744073709551616 ^ l.length
  | [], _ => by rw [natW, List.length_nil, Int.pow_zero]; omega
  | b :: l, h => by
    have h1 := h b (by simp)
    have h2 := natW_lt l (fun x hx => h x (by simp [hx]))
    rw [natW, List.length_cons, Int.pow_succ]
    omega
/-- Which of two whole numbers is the greater one. -/
def cmpZ (a b : Int) : Int := if a < b then -1 else if b < a then 1 else 0
theorem mul_step {P x y : Int} (hP : 1 ≤ P) (h : x + 1 ≤ y) : P * x + P ≤ P * y := by
  have e : P * x + P = P * (x + 1) := by rw [Int.mul_add, Int.mul_one]
  rw [e]
  exact Int.mul_le_mul_of_nonneg_left h (by omega)
theorem natW_split (l : List Int) (i : Nat) (h : i < l.length) : natW l = natW (l.take i) + 18446744073709551616 ^ i * ((l[i]'h) + 18446744073709551616 * natW (l.drop (i + 1))) := by
  conv => lhs; rw [← List.take_append_drop i l, natW_append, List.drop_eq_getElem_cons h]
  rw [List.length_take, Nat.min_eq_left (by omega), natW]
theorem natW_at (a b : List Int) (ha : ∀ x ∈ a, 0 ≤ x ∧ x ≤ 18446744073709551615) (hb : ∀ x ∈ b, 0 ≤ x ∧ x ≤ 18446744073709551615) (i : Nat) (h : i < a.length) (h' : i < b.length) (he : a.drop (i + 1) = b.drop (i + 1)) (hl : a[i] < b[i]) : natW a < natW b := by
  rw [natW_split a i h, natW_split b i h', he]
  have h1 := natW_lt (a.take i) (fun x hx => ha x (List.mem_of_mem_take hx))
  have h2 := natW_nonneg (b.take i) (fun x hx => hb x (List.mem_of_mem_take hx))
  rw [List.length_take, Nat.min_eq_left (by omega)] at h1
  have h3 := mul_step (powB_pos i) (show a[i] + 18446744073709551616 * natW (b.drop (i + 1)) + 1 ≤ b[i] + 18446744073709551616 * natW (b.drop (i + 1)) by omega)
  omega
theorem powB_mono {m n : Nat} (h : m ≤ n) : (18446744073709551616 : Int) ^ m ≤ 18446744073709551616 ^ n := by
  have : (18446744073709551616 : Nat) ^ m ≤ 18446744073709551616 ^ n := Nat.pow_le_pow_right (by decide) h
  have e2 : ((18446744073709551616 ^ m : Nat) : Int) ≤ ((18446744073709551616 ^ n : Nat) : Int) := Int.ofNat_le.2 this
  rwa [Int.natCast_pow, Int.natCast_pow] at e2
theorem natW_len (a b : List Int) (ha : okW a) (hb : okW b) (h : a.length < b.length) : natW a < natW b := by
  have h1 := natW_lt a ha.1
  obtain ⟨i, hi⟩ : ∃ i, b.length = i + 1 := ⟨b.length - 1, by omega⟩
  have hil : i < b.length := by omega
  have e := natW_split b i hil
  have hlast : b[i]'hil ≠ 0 := by
    intro h0
    refine hb.2 ?_
    rw [List.getLast?_eq_getElem?, hi, Nat.add_sub_cancel, List.getElem?_eq_getElem hil, h0]
  have hr := hb.1 _ (List.getElem_mem hil)
  rw [List.drop_of_length_le (by omega)] at e
  have h2 := natW_nonneg (b.take i) (fun x hx => hb.1 x (List.mem_of_mem_take hx))
  have h3 := mul_step (powB_pos i) (show (0 : Int) + 1 ≤ b[i] + 18446744073709551616 * natW [] by rw [natW]; omega)
  have h4 := powB_mono (show a.length ≤ i by omega)
  omega
end Go.Proofs.YtgnkjjgbdlkidaaGreatDoor.Bn
