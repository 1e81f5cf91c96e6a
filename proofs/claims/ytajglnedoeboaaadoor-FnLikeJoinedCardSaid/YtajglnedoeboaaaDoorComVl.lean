/- The number that a text is: as SetString's walk has it, as the reference has it. -/
import Derived.Test.YtajglnedoeboaaaDoorZ2
import Derived.Test.YtajglnedoeboaaaDoorSsC
import Derived.Test.YtajglnedoeboaaaDoorBv
import Derived.Test.YtajglnedoeboaaaDoorComV
namespace Go.Proofs.YtajglnedoeboaaaDoor.Com
open Go Go.RowKit Go.Proofs.YtajglnedoeboaaaDoor.Z Go.Proofs.YtajglnedoeboaaaDoor.Evs Go.Proofs.YtajglnedoeboaaaDoor.By Go.Proofs.YtajglnedoeboaaaDoor.Bv Go.Proofs.YtajglnedoeboaaaDoor.Ss Go.Proofs.YtajglnedoeboaaaDoorW.PrintWords Go.Proofs.YtajglnedoeboaaaDoorW.PrintLast
set_option linter.unusedVariables false
set_option linter.unusedSimpArgs false
theorem sg_of (l : List UInt8) : l.drop (sgN (ofL l)) = (sgn l).2 ∧ sgB (ofL l) = (sgn l).1 := by
  cases l with
  | nil => exact ⟨rfl, rfl⟩
  | cons c r =>
    have h0 : 0 < (ofL (c :: r)).size := by rw [ofL_size]; simp
    have hg : (ofL (c :: r))[0]'h0 = c := rfl
    have e : sgn (c :: r) = if c = 43 then (false, r) else if c = 45 then (true, r) else (false, c :: r) := rfl
    unfold sgN sgB
    rw [dif_pos h0, dif_pos h0, hg, e]
    by_cases h1 : c = 43
    · subst h1
      exact ⟨rfl, rfl⟩
    · rw [if_neg h1]
      by_cases h2 : c = 45
      · subst h2
        exact ⟨rfl, rfl⟩
      · rw [if_neg h2, if_neg (by simp [h1, h2])]
        exact ⟨rfl, beq_eq_false_iff_ne.2 h2⟩
/-- The number that a text is. -/
def valS (l : List UInt8) : Option Int := if allD (sgn l).2 then some (if (sgn l).1 then -decV (sgn l).2 else decV (sgn l).2) else none
theorem cvt_val (l : List UInt8) : cvt (ofL l) = valS l := by
  obtain ⟨h1, h2⟩ := sg_of l
  unfold cvt valS
  rw [bl_ofL, h1, h2]
  by_cases ha : allD (sgn l).2 = true
  · have hb := ha
    unfold allD at hb
    rw [Bool.and_eq_true] at hb
    have hl : 0 < (sgn l).2.length := of_decide_eq_true hb.2
    rw [if_pos ha, if_pos ⟨fun h => by rw [h] at hl; simp at hl, hb.1⟩]
  · rw [if_neg ha, if_neg]
    rintro ⟨h3, h4⟩
    apply ha
    unfold allD
    rw [h4, decide_eq_true (List.length_pos_iff.2 h3)]
    rfl
theorem numS_cvt (l : List UInt8) : ofN (numS l) = match cvt (ofL l) with | none => (false, (⟨#[]⟩ : ByteArray), false) | some z => (decide (z < 0), plainS z, true) := by
  rw [cvt_val]
  unfold valS numS ofN
  by_cases ha : allD (sgn l).2 = true
  · rw [if_pos ha, if_pos ha]
    have hd := allD_all ha
    have h0 := (decV_bounds _ hd).1
    have hv := magB_val _ hd
    have hc := magB_can _ hd
    have hz : ((sgn l).2 |> decV).natAbs = (decV (sgn l).2).toNat := by omega
    have hm : magB (sgn l).2 = magOf (decV (sgn l).2).toNat := magOf_of hc (by rw [hv]; omega)
    have he : decide (0 < decV (sgn l).2) = !(magB (sgn l).2).isEmpty := by
      cases hb : magB (sgn l).2 with
      | nil =>
        rw [hb] at hv
        have : (0 : Int) = decV (sgn l).2 := hv
        rw [← this]
        rfl
      | cons x r =>
        rw [hb] at hv hc
        have h1 := canB_pos hc
        have h2 := beV_nonneg r
        have h3 := pow256_pos r.length
        have h4 : beV (x :: r) = (x.toNat : Int) * 256 ^ r.length + beV r := rfl
        have h5 : (1 : Int) * 1 ≤ (x.toNat : Int) * 256 ^ r.length := Int.mul_le_mul (by omega) h3 (by omega) (by omega)
        have h6 : 0 < decV (sgn l).2 := by omega
        rw [decide_eq_true h6]
        rfl
    show ((sgn l).1 && !(magB (sgn l).2).isEmpty, ofL (magB (sgn l).2), true) = (decide ((if (sgn l).1 = true then -decV (sgn l).2 else decV (sgn l).2) < 0), plainS _, true)
    have hp : plainS (if (sgn l).1 = true then -decV (sgn l).2 else decV (sgn l).2) = ofL (magB (sgn l).2) := by
      unfold plainS
      rw [hm]
      congr 2
      split <;> omega
    rw [hp, ← he]
    cases hs : (sgn l).1
    · have : decide ((if false = true then -decV (sgn l).2 else decV (sgn l).2) < 0) = false := decide_eq_false (by simp; omega)
      rw [this]
      rfl
    · have : decide ((if true = true then -decV (sgn l).2 else decV (sgn l).2) < 0) = decide (0 < decV (sgn l).2) := by simp
      rw [this]
      rfl
  · rw [if_neg ha, if_neg ha]
    rfl
end Go.Proofs.YtajglnedoeboaaaDoor.Com
