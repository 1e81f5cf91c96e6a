/- Numbers out of bytes and words: plain Lean. -/
import Derived.Laws.Bits64b
import Derived.Test.YtipfmkfpaglkkaaGreatDoorBg
namespace Go.Proofs.YtipfmkfpaglkkaaGreatDoor.Bn
open Go Go.Proofs.YtipfmkfpaglkkaaGreatDoor.Big
set_option linter.unusedVariables false
set_option linter.unusedSimpArgs false
/-- Bytes, the lowest first. -/
def leV : List Int → Int
  | [] => 0
  | b :: l => b + 256 * leV l
theorem leV_nonneg : ∀ (l : List Int), (∀ x ∈ l, 0 ≤ x ∧ x ≤ 255) → 0 ≤ leV l
  | [], _ => Int.le_refl _
  | b :: l, h => by
    have h1 := h b (by simp)
    have h2 := leV_nonneg l (fun x hx => h x (by simp [hx]))
    unfold leV
    omega
theorem leV_lt : ∀ (l : List Int), (∀ x ∈ l, 0 ≤ x ∧ x ≤ 255) → leV l + 1 ≤ 256 ^ l.length := by
  intro l
  induction l with
  | nil => intro _; rw [leV, List.length_nil, Int.pow_zero]; omega
  | cons b l ih =>
    intro h
    have h1 := h b (by simp)
    have h2 := ih (fun x hx => h x (by simp [hx]))
    rw [leV, List.length_cons, Int.pow_succ]
    omega
theorem leV_lt8 (l : List Int) (h : ∀ x ∈ l, 0 ≤ x ∧ x ≤ 255) (h8 : l.length ≤ 8) : 0 ≤ leV l ∧ leV l ≤ 18446744073709551615 := by
  refine ⟨leV_nonneg l h, ?_⟩
  have key : ∀ (l : List Int), (∀ x ∈ l, 0 ≤ x ∧ x ≤ 255) → leV l + 1 ≤ 256 ^ l.length := by
    intro l
    induction l with
    | nil => intro _; rw [leV, List.length_nil, Int.pow_zero]; omega
    | cons b l ih =>
      intro h
      have h1 := h b (by simp)
      have h2 := ih (fun x hx => h x (by simp [hx]))
      rw [leV, List.length_cons, Int.pow_succ]
      omega
  have h1 := key l h
  have h2 : (256 : Int) ^ l.length ≤ 256 ^ 8 := by
    have : (256 : Nat) ^ l.length ≤ 256 ^ 8 := Nat.pow_le_pow_right (by decide) h8
    have e2 : ((256 ^ l.length : Nat) : Int) ≤ ((256 ^ 8 : Nat) : Int) := Int.ofNat_le.2 this
    rwa [Int.natCast_pow, Int.natCast_pow] at e2
  have h3 : (256 : Int) ^ 8 = 18446744073709551616 := rfl
  omega
theorem leV_append : ∀ (a b : List Int), leV (a ++ b) = leV a + 256 ^ a.length * leV b
  | [], b => by rw [List.nil_append, List.length_nil, Int.pow_zero, Int.one_mul, leV, Int.zero_add]
  | x :: a, b => by
    rw [List.cons_append, leV, leV_append a b, leV, List.length_cons, Int.pow_succ, Int.mul_add, ← Int.mul_assoc, Int.add_assoc, Int.mul_comm (256 ^ a.length) 256]
/-- Word k of bytes, the lowest first. -/
def wd (rev : List Int) (k : Nat) : Int := leV ((rev.drop (8 * k)).take 8)
theorem wd_range (rev : List Int) (h : ∀ x ∈ rev, 0 ≤ x ∧ x ≤ 255) (k : Nat) : 0 ≤ wd rev k ∧ wd rev k ≤ 18446744073709551615 :=
  leV_lt8 _ (fun x hx => h x (List.mem_of_mem_drop (List.mem_of_mem_take hx))) (by rw [List.length_take]; omega)
def words (rev : List Int) (n : Nat) : List Int := (List.range n).map (wd rev)
theorem wd_drop (rev : List Int) (k : Nat) : wd (rev.drop 8) k = wd rev (k + 1) := by
  unfold wd
  rw [List.drop_drop, Nat.mul_add, Nat.add_comm (8 * 1)]
theorem natW_words : ∀ (n : Nat) (rev : List Int), rev.length ≤ 8 * n → natW (words rev n) = leV rev
  | 0, rev, h => by
    have : rev = [] := List.length_eq_zero_iff.1 (by omega)
    subst this
    rfl
  | n + 1, rev, h => by
    have e : words rev (n + 1) = wd rev 0 :: words (rev.drop 8) n := by
      unfold words
      rw [List.range_succ_eq_map, List.map_cons, List.map_map]
      congr 1
      apply List.map_congr_left
      intro k _
      exact (wd_drop rev k).symm
    rw [e, natW, natW_words n (rev.drop 8) (by rw [List.length_drop]; omega)]
    have e2 : wd rev 0 = leV (rev.take 8) := rfl
    conv => rhs; rw [← List.take_append_drop 8 rev, leV_append]
    rw [e2]
    by_cases h8 : 8 ≤ rev.length
    · rw [List.length_take, Nat.min_eq_left h8]
      have : (256 : Int) ^ 8 = 18446744073709551616 := rfl
      rw [this]
    · rw [List.drop_of_length_le (by omega)]
      simp [leV]
/-- A row whose first k words are told. -/
def rowK (rev : List Int) (n k : Nat) : List Int := (List.range n).map fun j => if j < k then wd rev j else 0
theorem rowK_zero (rev : List Int) (n : Nat) : rowK rev n 0 = List.replicate n 0 := by
  unfold rowK
  rw [List.eq_replicate_iff]
  refine ⟨by simp, fun x hx => ?_⟩
  obtain ⟨j, _, rfl⟩ := List.mem_map.1 hx
  simp
theorem rowK_set (rev : List Int) (n k : Nat) : (rowK rev n k).set k (wd rev k) = rowK rev n (k + 1) := by
  apply List.ext_getElem
  · simp [rowK]
  · intro j h1 h2
    rw [List.getElem_set]
    by_cases e : k = j
    · subst e
      simp [rowK]
    · rw [if_neg e]
      simp only [rowK, List.getElem_map, List.getElem_range]
      by_cases hj : j < k
      · rw [if_pos hj, if_pos (by omega)]
      · rw [if_neg hj, if_neg (by omega)]
theorem rowK_full (rev : List Int) (n k : Nat) (h : n ≤ k) : rowK rev n k = words rev n := by
  unfold rowK words
  apply List.map_congr_left
  intro j hj
  rw [if_pos (by have := List.mem_range.1 hj; omega)]
theorem bits_or_u32_nat (a b : Nat) (ha : a < 4294967296) (hb : b < 4294967296) : bits .or .u32 (a : Int) (b : Int) = ((a ||| b : Nat) : Int) := by
  have hx : a ||| b < 2 ^ 32 := Nat.or_lt_two_pow (by omega) (by omega)
  have h1 : (BitVec.ofInt 32 (a : Int)).toNat = a := by
    rw [BitVec.ofInt_natCast, BitVec.toNat_ofNat]; exact Nat.mod_eq_of_lt (by omega)
  have h2 : (BitVec.ofInt 32 (b : Int)).toNat = b := by
    rw [BitVec.ofInt_natCast, BitVec.toNat_ofNat]; exact Nat.mod_eq_of_lt (by omega)
  show IntKind.u32.wrap ((BitVec.ofInt 32 (a : Int) ||| BitVec.ofInt 32 (b : Int)).toNat : Int) = _
  rw [BitVec.toNat_or, h1, h2, IntKind.wrap_u32]
  omega
theorem or_low (m x y : Nat) (hx : x < 2 ^ m) : x ||| y * 2 ^ m = x + y * 2 ^ m := by
  rw [Nat.or_comm, Nat.mul_comm, ← Nat.two_pow_add_eq_or_of_lt hx, Nat.add_comm]
theorem or32 (m x y : Nat) (hx : x < 2 ^ m) (hx2 : x < 4294967296) (hy : y * 2 ^ m < 4294967296) : bits .or .u32 (x : Int) ((y * 2 ^ m : Nat) : Int) = ((x + y * 2 ^ m : Nat) : Int) := by
  rw [bits_or_u32_nat x _ hx2 hy, or_low m x y hx]
theorem or64 (m x y : Nat) (hx : x < 2 ^ m) (hx2 : x < 18446744073709551616) (hy : y * 2 ^ m < 18446744073709551616) : bits .or .u64 (x : Int) ((y * 2 ^ m : Nat) : Int) = ((x + y * 2 ^ m : Nat) : Int) := by
  rw [bits_or_u64_nat x _ hx2 hy, or_low m x y hx]
theorem or64' (m x y : Nat) (hx : x < 2 ^ m) (hx2 : x < 18446744073709551616) (hy : y * 2 ^ m < 18446744073709551616) : bits .or .u64 ((y * 2 ^ m : Nat) : Int) (x : Int) = ((x + y * 2 ^ m : Nat) : Int) := by
  rw [bits_or_u64_nat _ x hy hx2, Nat.or_comm, or_low m x y hx]
theorem pow_256 (t : Nat) : (256 : Int) ^ t = ((2 ^ (8 * t) : Nat) : Int) := by
  rw [Nat.pow_mul, Int.natCast_pow]
  rfl
theorem step_or (l : List Int) (hb : ∀ x ∈ l, 0 ≤ x ∧ x ≤ 255) (t : Nat) (h : t < l.length) (ht : t < 8) :
    bits .or .u64 (leV (l.take t)) (IntKind.u64.wrap (IntKind.u64.wrap (l[t]'h) * 2 ^ (8 * t))) = leV (l.take (t + 1)) := by
  have hbt : ∀ x ∈ l.take t, 0 ≤ x ∧ x ≤ 255 := fun x hx => hb x (List.mem_of_mem_take hx)
  have h1 := leV_nonneg _ hbt
  have h2 := leV_lt _ hbt
  have hlen : (l.take t).length = t := by rw [List.length_take]; omega
  rw [hlen, pow_256] at h2
  obtain ⟨a, ha⟩ := Int.eq_ofNat_of_zero_le h1
  have hx := hb _ (List.getElem_mem h)
  obtain ⟨x, hxx⟩ := Int.eq_ofNat_of_zero_le hx.1
  have et : l.take (t + 1) = l.take t ++ [l[t]'h] := (List.take_append_getElem h).symm
  rw [et, leV_append, hlen, pow_256, ha, hxx]
  have ha2 : a < 2 ^ (8 * t) := by omega
  have hx2 : x < 256 := by omega
  have p64 : 256 * 2 ^ (8 * t) ≤ 18446744073709551616 := by
    have e : 256 * 2 ^ (8 * t) = 2 ^ (8 * t + 8) := by rw [Nat.pow_add, Nat.mul_comm]
    rw [e]
    exact (Nat.pow_le_pow_right (by decide) (show 8 * t + 8 ≤ 64 by omega) : 2 ^ (8 * t + 8) ≤ 2 ^ 64)
  have hxp : x * 2 ^ (8 * t) ≤ 255 * 2 ^ (8 * t) := Nat.mul_le_mul_right _ (by omega)
  have e1 : IntKind.u64.wrap (x : Int) = (x : Int) := by rw [IntKind.wrap_u64]; omega
  have e2 : (x : Int) * 2 ^ (8 * t) = ((x * 2 ^ (8 * t) : Nat) : Int) := by rw [Int.natCast_mul, Int.natCast_pow]; rfl
  have e3 : IntKind.u64.wrap ((x * 2 ^ (8 * t) : Nat) : Int) = ((x * 2 ^ (8 * t) : Nat) : Int) := by rw [IntKind.wrap_u64]; omega
  rw [e1, e2, e3, or64 (8 * t) a x ha2 (by omega) (by omega)]
  rw [leV, leV, Int.mul_zero, Int.add_zero, Int.natCast_add, Int.natCast_mul, Int.mul_comm]
/-- Words without zeros behind. -/
def normLen (xs : List Int) : Nat → Nat
  | 0 => 0
  | i + 1 => if xs.getD i 0 = 0 then normLen xs i else i + 1
theorem normLen_le (xs : List Int) : ∀ i, normLen xs i ≤ i
  | 0 => Nat.le_refl _
  | i + 1 => by
    unfold normLen
    split
    · exact Nat.le_succ_of_le (normLen_le xs i)
    · exact Nat.le_refl _
theorem natW_append : ∀ (a b : List Int), natW (a ++ b) = natW a + 18446744073709551616 ^ a.length * natW b
  | [], b => by rw [List.nil_append, List.length_nil, Int.pow_zero, Int.one_mul, natW, Int.zero_add]
  | x :: a, b => by
    rw [List.cons_append, natW, natW_append a b, natW, List.length_cons, Int.pow_succ, Int.mul_add, ← Int.mul_assoc, Int.add_assoc, Int.mul_comm (18446744073709551616 ^ a.length)]
theorem norm_val (xs : List Int) : ∀ i, i ≤ xs.length → natW (xs.take (normLen xs i)) = natW (xs.take i)
  | 0, _ => rfl
  | i + 1, h => by
    unfold normLen
    split
    · rename_i hz
      rw [norm_val xs i (by omega)]
      have e : xs.take (i + 1) = xs.take i ++ [xs[i]'(by omega)] := (List.take_append_getElem (by omega)).symm
      have hz2 : xs[i]'(by omega) = 0 := by
        rw [List.getD_eq_getElem?_getD, List.getElem?_eq_getElem (by omega)] at hz
        exact hz
      rw [e, hz2, natW_append]
      simp [natW]
    · rfl
theorem norm_ok (xs : List Int) (hx : ∀ x ∈ xs, 0 ≤ x ∧ x ≤ 18446744073709551615) : ∀ i, i ≤ xs.length → okW (xs.take (normLen xs i))
  | 0, _ => ⟨by simp [normLen], by simp [normLen]⟩
  | i + 1, h => by
    unfold normLen
    split
    · exact norm_ok xs hx i (by omega)
    · rename_i hz
      refine ⟨fun x hm => hx x (List.mem_of_mem_take hm), fun hl => hz ?_⟩
      have e : xs.take (i + 1) = xs.take i ++ [xs[i]'(by omega)] := (List.take_append_getElem (by omega)).symm
      rw [e, List.getLast?_append] at hl
      have : xs[i]'(by omega) = 0 := by simpa using hl
      rw [List.getD_eq_getElem?_getD, List.getElem?_eq_getElem (by omega)]
      exact this
theorem natW_nonneg : ∀ (l : List Int), (∀ x ∈ l, 0 ≤ x ∧ x ≤ 18446744073709551615) → 0 ≤ natW l
  | [], _ => Int.le_refl _
  | b :: l, h => by
    have h1 := h b (by simp)
    have h2 := natW_nonneg l (fun x hx => h x (by simp [hx]))
    unfold natW
    omega
theorem powB_pos (n : Nat) : (1 : Int) ≤ 18446744073709551616 ^ n := by
  have : 0 < (18446744073709551616 : Nat) ^ n := Nat.pow_pos (by decide)
  have e2 : ((18446744073709551616 ^ n : Nat) : Int) ≥ 1 := by omega
  rwa [Int.natCast_pow] at e2
theorem natW_lt : ∀ (l : List Int), (∀ x ∈ l, 0 ≤ x ∧ x ≤ 18446744073709551615) → natW l + 1 ≤ 18446744073709551616 ^ l.length
  | [], _ => by rw [natW, List.length_nil, Int.pow_zero]; omega
  | b :: l, h => by
    have h1 := h b (by simp)
    have h2 := natW_lt l (fun x hx => h x (by simp [hx]))
    rw [natW, List.length_cons, Int.pow_succ]
    omega
/-- Which of two whole numbers is the greater one. -/
def cmpZ (a b : Int) : Int := if a < b then -1 else if b < a then 1 else 0
theorem mul_step {P x y : Int} (hP : 1 ≤ P) (h : x + 1 ≤ y) : P * x + P ≤ P * y := by
  have e : P * x + P = P * (x + 1) := by rw [Int.mul_add, Int.mul_one]
  rw [e]
  exact Int.mul_le_mul_of_nonneg_left h (by omega)
theorem natW_split (l : List Int) (i : Nat) (h : i < l.length) : natW l = natW (l.take i) + 18446744073709551616 ^ i * ((l[i]'h) + 18446744073709551616 * natW (l.drop (i + 1))) := by
  conv => lhs; rw [← List.take_append_drop i l, natW_append, List.drop_eq_getElem_cons h]
  rw [List.length_take, Nat.min_eq_left (by omega), natW]
theorem natW_at (a b : List Int) (ha : ∀ x ∈ a, 0 ≤ x ∧ x ≤ 18446744073709551615) (hb : ∀ x ∈ b, 0 ≤ x ∧ x ≤ 18446744073709551615) (i : Nat) (h : i < a.length) (h' : i < b.length) (he : a.drop (i + 1) = b.drop (i + 1)) (hl : a[i] < b[i]) : natW a < natW b := by
  rw [natW_split a i h, natW_split b i h', he]
  have h1 := natW_lt (a.take i) (fun x hx => ha x (List.mem_of_mem_take hx))
  have h2 := natW_nonneg (b.take i) (fun x hx => hb x (List.mem_of_mem_take hx))
  rw [List.length_take, Nat.min_eq_left (by omega)] at h1
  have h3 := mul_step (powB_pos i) (show a[i] + 18446744073709551616 * natW (b.drop (i + 1)) + 1 ≤ b[i] + 18446744073709551616 * natW (b.drop (i + 1)) by omega)
  omega
theorem powB_mono {m n : Nat} (h : m ≤ n) : (18446744073709551616 : Int) ^ m ≤ 18446744073709551616 ^ n := by
  have : (18446744073709551616 : Nat) ^ m ≤ 18446744073709551616 ^ n := Nat.pow_le_pow_right (by decide) h
  have e2 : ((18446744073709551616 ^ m : Nat) : Int) ≤ ((18446744073709551616 ^ n : Nat) : Int) := Int.ofNat_le.2 this
  rwa [Int.natCast_pow, Int.natCast_pow] at e2
theorem natW_len (a b : List Int) (ha : okW a) (hb : okW b) (h : a.length < b.length) : natW a < natW b := by
  have h1 := natW_lt a ha.1
  obtain ⟨i, hi⟩ : ∃ i, b.length = i + 1 := ⟨b.length - 1, by omega⟩
  have hil : i < b.length := by omega
  have e := natW_split b i hil
  have hlast : b[i]'hil ≠ 0 := by
    intro h0
    refine hb.2 ?_
    rw [List.getLast?_eq_getElem?, hi, Nat.add_sub_cancel, List.getElem?_eq_getElem hil, h0]
  have hr := hb.1 _ (List.getElem_mem hil)
  rw [List.drop_of_length_le (by omega)] at e
  have h2 := natW_nonneg (b.take i) (fun x hx => hb.1 x (List.mem_of_mem_take hx))
  have h3 := mul_step (powB_pos i) (show (0 : Int) + 1 ≤ b[i] + 18446744073709551616 * natW [] by rw [natW]; omega)
  have h4 := powB_mono (show a.length ≤ i by omega)
  omega
end Go.Proofs.YtipfmkfpaglkkaaGreatDoor.Bn
