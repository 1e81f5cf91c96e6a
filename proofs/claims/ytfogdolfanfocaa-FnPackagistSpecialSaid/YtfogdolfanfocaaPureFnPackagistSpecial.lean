/- FnPackagistSpecial: for every two texts the package's comparison of two Packagist components by weight answers as the reference does, and the turned comparison answers the turned number (the law's own conditions: texts up to 1500 bytes, known components; no other condition). -/
import Derived.Test.YtfogdolfanfocaaZ3
namespace Go.Proofs.Ytfogdolfanfocaa.Pure
open Go.RowKit Go.Proofs.Ytfogdolfanfocaa.Z Go.Proofs.YtfogdolfanfocaaW.PrintWords Go.Proofs.YtfogdolfanfocaaW.PrintLast
set_option linter.unusedVariables false
set_option linter.unusedSimpArgs false

def pfx (s p : ByteArray) : Bool := decide (p.size ≤ s.size) && ((s.extract 0 p.size).toList == p.toList)

theorem hasPrefix_f (s p : ByteArray) : strings_HasPrefix.f s p = some (pfx s p) := by
  unfold strings_HasPrefix.f stringslite_HasPrefix.f pfx
  by_cases h : (s.size : Int) ≥ (p.size : Int)
  · have h' : p.size ≤ s.size := by omega
    rw [if_pos h, if_pos (by omega), if_pos (by omega)]
    simp [h']
  · have h' : ¬ p.size ≤ s.size := by omega
    rw [if_neg h]
    simp [h']

def wt (s : ByteArray) : Int :=
  if pfx s ⟨#[82, 67]⟩ then 3 else if pfx s ⟨#[100, 101, 118]⟩ then 0 else if pfx s ⟨#[97]⟩ then 1 else if pfx s ⟨#[98]⟩ then 2
  else if pfx s ⟨#[114, 99]⟩ then 3 else if pfx s ⟨#[35]⟩ then 4 else if pfx s ⟨#[112]⟩ then 5 else 0

theorem wt_range (s : ByteArray) : 0 ≤ wt s ∧ wt s ≤ 5 := by
  unfold wt
  repeat' split
  all_goals omega

theorem weigh_l (k : Nat) (s : ByteArray) (i : Nat) (n : Nat) (xs : List ByteArray) (hn : xs.length = n) (hb : n < 100) (hi : i < n) :
    semantic_weighPackagistBuildCharacter.l0 (k + 1) s xs n i = if pfx s (xs.getD i ByteArray.empty) then some (i : Int) else semantic_weighPackagistBuildCharacter.l0 k s xs n ((i + 1 : Nat) : Int) := by
  simp only [semantic_weighPackagistBuildCharacter.l0, hasPrefix_f, rdOf, Option.bind_some, Int.toNat_natCast]
  rw [if_pos (by omega), if_pos (by omega), if_pos (by omega)]
  have : wrap64 ((i : Int) + 1) = ((i + 1 : Nat) : Int) := by unfold wrap64; omega
  rw [this]
theorem weigh_f (k : Nat) (s : ByteArray) : semantic_weighPackagistBuildCharacter.f (k + 7) s = some (wt s) := by
  unfold semantic_weighPackagistBuildCharacter.f wt
  rw [hasPrefix_f]
  simp only [Option.bind_some]
  by_cases h0 : pfx s ⟨#[82, 67]⟩ = true
  · rw [if_pos h0, if_pos h0]
  rw [if_neg h0, if_neg h0]
  have st := fun k i h => weigh_l k s i 6 _ (show ([(⟨#[100, 101, 118]⟩ : ByteArray), (⟨#[97]⟩ : ByteArray), (⟨#[98]⟩ : ByteArray), (⟨#[114, 99]⟩ : ByteArray), (⟨#[35]⟩ : ByteArray), (⟨#[112]⟩ : ByteArray)] : List ByteArray).length = 6 from rfl) (by omega) h
  have e : ∀ (i : Nat) (a b : Option Int), i ≤ 6 → a = b → a = b := fun _ _ _ _ h => h
  refine (st (k + 6) 0 (by omega)).trans ?_
  simp only [List.getD_cons_zero, List.getD_cons_succ]
  split; · rfl
  refine (st (k + 5) 1 (by omega)).trans ?_
  simp only [List.getD_cons_zero, List.getD_cons_succ]
  split; · rfl
  refine (st (k + 4) 2 (by omega)).trans ?_
  simp only [List.getD_cons_zero, List.getD_cons_succ]
  split; · rfl
  refine (st (k + 3) 3 (by omega)).trans ?_
  simp only [List.getD_cons_zero, List.getD_cons_succ]
  split; · rfl
  refine (st (k + 2) 4 (by omega)).trans ?_
  simp only [List.getD_cons_zero, List.getD_cons_succ]
  split; · rfl
  refine (st (k + 1) 5 (by omega)).trans ?_
  simp only [List.getD_cons_zero, List.getD_cons_succ]
  split; · rfl
  simp only [semantic_weighPackagistBuildCharacter.l0]
  rw [if_neg (by omega)]

theorem pack_l (k : Nat) (s : ByteArray) (i : Nat) (n : Nat) (xs : List ByteArray) (ys : List Int) (hn : xs.length = n) (hy : ys.length = n) (hb : n < 100) (hi : i < n) :
    spec_packWeight.l0 (k + 1) s xs ys i = if pfx s (xs.getD i ByteArray.empty) then some (ys.getD i 0) else spec_packWeight.l0 k s xs ys ((i + 1 : Nat) : Int) := by
  simp only [spec_packWeight.l0]
  have hx : rdOf ByteArray.empty xs (i : Int) = xs.getD i ByteArray.empty := by simp [rdOf]
  have hr : rd ys (i : Int) = ys.getD i 0 := by simp [rd]
  rw [hx, hr]
  have : wrap64 ((i : Int) + 1) = ((i + 1 : Nat) : Int) := by unfold wrap64; omega
  rw [if_pos (by omega), if_pos (by omega), this]
  unfold pfx
  generalize xs.getD i ByteArray.empty = p at *
  by_cases h : p.size ≤ s.size
  · rw [if_pos (by omega), if_pos (by omega), if_pos (by omega)]
    by_cases h2 : (s.extract 0 p.size).toList = p.toList
    · rw [if_pos h2, if_pos (by omega), if_pos (by rw [h2]; simp [h])]
    · rw [if_neg h2, if_neg (by simp only [beq_iff_eq, Bool.and_eq_true]; exact fun hh => h2 hh.2)]
  · rw [if_neg (by omega), if_neg (by simp [h])]
theorem pack_f (k : Nat) (s : ByteArray) : spec_packWeight.f (k + 8) s = some (wt s) := by
  unfold spec_packWeight.f wt
  have st := fun k i h => pack_l k s i 7 _ _ (show ([(⟨#[82, 67]⟩ : ByteArray), (⟨#[100, 101, 118]⟩ : ByteArray), (⟨#[97]⟩ : ByteArray), (⟨#[98]⟩ : ByteArray), (⟨#[114, 99]⟩ : ByteArray), (⟨#[35]⟩ : ByteArray), (⟨#[112]⟩ : ByteArray)] : List ByteArray).length = 7 from rfl) (show ([3, 0, 1, 2, 3, 4, 5] : List Int).length = 7 from rfl) (by omega) h
  refine (st (k + 7) 0 (by omega)).trans ?_
  simp only [List.getD_cons_zero, List.getD_cons_succ]
  split; · rfl
  refine (st (k + 6) 1 (by omega)).trans ?_
  simp only [List.getD_cons_zero, List.getD_cons_succ]
  split; · rfl
  refine (st (k + 5) 2 (by omega)).trans ?_
  simp only [List.getD_cons_zero, List.getD_cons_succ]
  split; · rfl
  refine (st (k + 4) 3 (by omega)).trans ?_
  simp only [List.getD_cons_zero, List.getD_cons_succ]
  split; · rfl
  refine (st (k + 3) 4 (by omega)).trans ?_
  simp only [List.getD_cons_zero, List.getD_cons_succ]
  split; · rfl
  refine (st (k + 2) 5 (by omega)).trans ?_
  simp only [List.getD_cons_zero, List.getD_cons_succ]
  split; · rfl
  refine (st (k + 1) 6 (by omega)).trans ?_
  simp only [List.getD_cons_zero, List.getD_cons_succ]
  split; · rfl
  simp only [spec_packWeight.l0]
  rw [if_neg (by simp)]

def sgn (a b : Int) : Int := if a > b then 1 else if a < b then -1 else 0
theorem impl_f (k : Nat) (a b : ByteArray) : impl_PackagistSpecial.f (k + 7) a b = some (sgn (wt a) (wt b)) := by
  unfold impl_PackagistSpecial.f semantic_ZZPackagistSpecial.f semantic_comparePackagistSpecialVersions.f
  rw [weigh_f, weigh_f]
  simp only [Option.bind_some, sgn]
  repeat' split
  all_goals rfl
theorem spec_f (k : Nat) (a b : ByteArray) : spec_PackagistSpecial.f (k + 8) a b = some (sgn (wt a) (wt b)) := by
  unfold spec_PackagistSpecial.f spec_orderInts.f
  rw [pack_f, pack_f]
  simp only [Option.bind_some, sgn]
  repeat' split
  all_goals first | rfl | (simp; done) | omega

-- the guard answers something: loops over lists of known length
theorem wrap_nat (i : Nat) (h : (i : Int) < 9223372036854775807) : wrap64 ((i : Int) + 1) = ((i + 1 : Nat) : Int) := by unfold wrap64; omega
theorem short_l (l : List ByteArray) (hl : (l.length : Int) < 9223372036854775807) (d : Nat) : ∀ (k i : Nat), i + d = l.length → d < k → ∃ r, laws_short.l0 k l l (l.length : Int) (i : Int) = some r := by
  induction d with
  | zero =>
    intro k i h hk
    obtain ⟨k, rfl⟩ : ∃ m, k = m + 1 := ⟨k - 1, by omega⟩
    simp only [laws_short.l0]
    rw [if_neg (by omega)]
    exact ⟨_, rfl⟩
  | succ d ih =>
    intro k i h hk
    obtain ⟨k, rfl⟩ : ∃ m, k = m + 1 := ⟨k - 1, by omega⟩
    simp only [laws_short.l0]
    rw [if_pos (by omega), if_pos (by omega), if_pos (by omega), wrap_nat i (by omega)]
    split
    · exact ⟨_, rfl⟩
    · exact ih k (i + 1) (by omega) (by omega)
theorem digit_f (c : Int) : ∃ b, spec_isDigit.f c = some b := by unfold spec_isDigit.f; split <;> exact ⟨_, rfl⟩
theorem digits_l (s : ByteArray) (hs : (s.size : Int) < 9223372036854775807) (d : Nat) : ∀ (k i : Nat), i + d = s.size → d < k → ∃ r, spec_allDigits.l0 k s (i : Int) = some r := by
  induction d with
  | zero =>
    intro k i h hk
    obtain ⟨k, rfl⟩ : ∃ m, k = m + 1 := ⟨k - 1, by omega⟩
    simp only [spec_allDigits.l0]
    rw [if_neg (by omega)]
    exact ⟨_, rfl⟩
  | succ d ih =>
    intro k i h hk
    obtain ⟨k, rfl⟩ : ∃ m, k = m + 1 := ⟨k - 1, by omega⟩
    simp only [spec_allDigits.l0]
    rw [if_pos (by omega), if_pos (by omega), wrap_nat i (by omega)]
    obtain ⟨b, hb⟩ := digit_f (bt s i)
    rw [hb]
    simp only [Option.bind_some]
    split
    · exact ih k (i + 1) (by omega) (by omega)
    · exact ⟨_, rfl⟩
theorem digits_f (s : ByteArray) (hs : (s.size : Int) < 9223372036854775807) (k : Nat) (h : s.size < k) : ∃ r, spec_allDigits.f k s = some r := digits_l s hs s.size k 0 (by omega) h
theorem known_f (s : ByteArray) (hs : (s.size : Int) < 9223372036854775807) (k : Nat) (h : s.size + 1 < k) : ∃ r, spec_PackagistKnown.f k [s] = some r := by
  obtain ⟨k, rfl⟩ : ∃ m, k = m + 2 := ⟨k - 2, by omega⟩
  unfold spec_PackagistKnown.f
  have e : ∀ k, ∃ r, spec_PackagistKnown.l0 (k + 1) [s] 1 = some r := fun k => by rw [spec_PackagistKnown.l0]; rw [if_neg (by simp)]; exact ⟨_, rfl⟩
  obtain ⟨q, hq⟩ := e k
  have hw : wrap64 (0 + 1) = 1 := by unfold wrap64; omega
  have hd : rdOf ByteArray.empty [s] 0 = s := rfl
  rw [spec_PackagistKnown.l0, hw, hd, hq]
  rw [if_pos (by simp), if_pos (by omega)]
  obtain ⟨b, hb⟩ := digits_f s hs (k + 1) (by omega)
  have hx : (s.extract 1 s.size).size ≤ s.size := by simp
  obtain ⟨c, hc⟩ := digits_f (s.extract 1 s.size) (by omega) (k + 1) (by omega)
  simp only [hb, hc, Option.bind_some]
  repeat' split
  all_goals first | exact ⟨_, rfl⟩ | omega
theorem pack_list (a b : ByteArray) (ha : (a.size : Int) < 9223372036854775807) (hb : (b.size : Int) < 9223372036854775807) (k : Nat) (h : a.size + b.size + 6 < k) : ∃ r, laws_packagist.f k [[a], [b]] = some r := by
  obtain ⟨k, rfl⟩ : ∃ m, k = m + 3 := ⟨k - 3, by omega⟩
  have sh : ∀ x : ByteArray, ∀ k, 1 < k → ∃ r, laws_short.f k [x] = some r := fun x k hk => short_l [x] (by simp) 1 k 0 (by simp) hk
  unfold laws_packagist.f
  have hw : wrap64 (0 + 1) = 1 := by unfold wrap64; omega
  have hw2 : wrap64 (1 + 1) = 2 := by unfold wrap64; omega
  have hl : (([[a], [b]] : List (List ByteArray)).length : Int) = 2 := rfl
  have e0 : rd_L1 [[a], [b]] 0 = [a] := rfl
  have e1 : rd_L1 [[a], [b]] 1 = [b] := rfl
  rw [hl, laws_packagist.l0, laws_packagist.l0, laws_packagist.l0, hl, hw, hw2, e0, e1]
  obtain ⟨r1, h1⟩ := sh a (k + 2) (by omega)
  obtain ⟨r2, h2⟩ := sh b (k + 1) (by omega)
  obtain ⟨r3, h3⟩ := known_f a ha (k + 2) (by omega)
  obtain ⟨r4, h4⟩ := known_f b hb (k + 1) (by omega)
  simp only [h1, h2, h3, h4, Option.bind_some]
  cases r1 <;> cases r2 <;> cases r3 <;> cases r4 <;> simp
theorem sgn_turn (a b : Int) : sgn a b = -sgn b a ∧ -1 ≤ sgn a b ∧ sgn a b ≤ 1 := by unfold sgn; repeat' split <;> omega
theorem turned_f (a b : Int) : laws_turned.f (sgn a b) (sgn b a) = some true := by
  unfold laws_turned.f
  have h := sgn_turn a b
  have hw : wrap64 (-sgn b a) = sgn a b := by have := sgn_turn b a; unfold wrap64; omega
  rw [hw, if_pos rfl, if_pos (by omega)]
  simp [h.2.2]

theorem FnPackagistSpecial : laws_FnPackagistSpecial.Pure := by
  intro a b ha hb
  refine ⟨a.size + b.size + 20, ?_⟩
  unfold laws_FnPackagistSpecial.f
  have key : ∀ x, laws_FnPackagistSpecial.j0 (a.size + b.size + 20) a b x = some true := by
    intro x
    simp only [laws_FnPackagistSpecial.j0]
    split; · rfl
    obtain ⟨r, hr⟩ := pack_list a b (by omega) (by omega) (a.size + b.size + 19) (by omega)
    rw [hr]
    simp only [Option.bind_some]
    split
    · have e1 := impl_f (a.size + b.size + 12) a b
      have e2 := spec_f (a.size + b.size + 11) a b
      have e3 := impl_f (a.size + b.size + 12) b a
      rw [e1, e2, e3]
      simp only [Option.bind_some, if_true, turned_f]
    · rfl
  split <;> exact key _

end Go.Proofs.Ytfogdolfanfocaa.Pure
