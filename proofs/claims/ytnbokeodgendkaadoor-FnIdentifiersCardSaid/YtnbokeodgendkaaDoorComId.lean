/- Which identifiers are known. -/
import Derived.Test.YtnbokeodgendkaaDoorZ6
import Derived.Test.YtnbokeodgendkaaDoorBy
import Derived.Test.YtnbokeodgendkaaDoorComD
namespace Go.Proofs.YtnbokeodgendkaaDoor.Com
open Go.RowKit Go.Proofs.YtnbokeodgendkaaDoor.Z Go.Proofs.YtnbokeodgendkaaDoor.Evs Go.Proofs.YtnbokeodgendkaaDoor.By Go.Proofs.YtnbokeodgendkaaDoorW.PrintWords Go.Proofs.YtnbokeodgendkaaDoorW.PrintLast
set_option linter.unusedVariables false
set_option linter.unusedSimpArgs false

/-- A sign and digits alone. -/
def signed (l : List UInt8) : Bool := match l with
  | [] => false
  | c :: r => (c == 45 || c == 43) && allD r
theorem signed_short (l : List UInt8) (h : ¬ 1 < l.length) : signed l = false := by
  match l, h with
  | [], _ => rfl
  | [c], _ => simp [signed, allD]
  | _ :: _ :: _, h => simp at h
def idK (l : List (List UInt8)) : Bool := l.all fun x => !signed x
theorem rd_map (l : List (List UInt8)) (i : Nat) (h : i < l.length) : rdOf ByteArray.empty (l.map ofL) (i : Int) = ofL (l[i]'h) := by
  rw [rdOf_nat]
  simp [List.getD_eq_getElem?_getD, h]
theorem ident_l (l : List (List UInt8)) (hl : l.length ≤ 100000) (hz : ∀ x ∈ l, x.length ≤ 140737488351232) (d : Nat) : ∀ i : Nat, i + d = l.length → Ev (fun k => spec_IdentifiersKnown.l0 k (l.map ofL) (i : Int)) (idK (l.drop i)) := by
  induction d with
  | zero =>
    intro i h
    refine Ev.step (fun _ => by rw [spec_IdentifiersKnown.l0, List.length_map]) (ev_neg (by omega) (ev_now ?_))
    rw [List.drop_of_length_le (by omega)]
    rfl
  | succ d ih =>
    intro i h
    have hi : i < l.length := by omega
    have hr := rd_map l i hi
    have hlen := hz _ (List.getElem_mem hi)
    have e : l.drop i = l[i] :: l.drop (i + 1) := List.drop_eq_getElem_cons hi
    have hk : idK (l.drop i) = (!signed l[i] && idK (l.drop (i + 1))) := by rw [e]; rfl
    have next := ih (i + 1) (by omega)
    rw [hk]
    refine Ev.step (fun _ => by rw [spec_IdentifiersKnown.l0, List.length_map, hr, ofL_size, wrap_nat (by omega)]) (ev_pos (by omega) (ev_pos (by omega) ?_))
    by_cases h1 : 1 < l[i].length
    · refine ev_pos (by omega) (ev_pos (by omega) ?_)
      obtain ⟨c, r, hcr⟩ : ∃ c r, l[i] = c :: r := by
        cases hx : l[i] with
        | nil => rw [hx] at h1; simp at h1
        | cons c r => exact ⟨c, r, rfl⟩
      rw [hcr] at hlen h1 ⊢
      have hb : bt (ofL (c :: r)) 0 = (c.toNat : Int) := bt_ofL (c :: r) 0 (by simp)
      have hx : (ofL (c :: r)).extract 1 (c :: r).length = ofL r := by rw [ofL_extract, List.take_of_length_le (Nat.le_refl _)]; rfl
      have hd := digits_ev r (by simp at hlen; omega)
      have c45 : (c.toNat : Int) = 45 ↔ (c == 45) = true := by
        rw [beq_iff_eq]
        exact ⟨fun h => UInt8.toNat_inj.1 (by have : (45 : UInt8).toNat = 45 := rfl; omega), fun h => by rw [h]; rfl⟩
      have c43 : (c.toNat : Int) = 43 ↔ (c == 43) = true := by
        rw [beq_iff_eq]
        exact ⟨fun h => UInt8.toNat_inj.1 (by have : (43 : UInt8).toNat = 43 := rfl; omega), fun h => by rw [h]; rfl⟩
      simp only [hb, hx]
      by_cases h45 : (c == 45) = true
      · refine ev_pos (c45.2 h45) (ev_pos (by omega) (Ev.bind hd ?_))
        have hsg : signed (c :: r) = allD r := by simp only [signed, h45, Bool.true_or, Bool.true_and]
        rw [hsg]
        cases allD r with
        | true => exact ev_t (ev_now (by simp))
        | false => exact ev_f (by simpa using next)
      · refine ev_neg (fun h => h45 (c45.1 h)) ?_
        by_cases h43 : (c == 43) = true
        · refine ev_pos (c43.2 h43) (ev_pos (by omega) (Ev.bind hd ?_))
          have hsg : signed (c :: r) = allD r := by simp only [signed, h43, Bool.or_true, Bool.true_and]
          rw [hsg]
          cases allD r with
          | true => exact ev_t (ev_now (by simp))
          | false => exact ev_f (by simpa using next)
        · refine ev_neg (fun h => h43 (c43.1 h)) ?_
          have hsg : signed (c :: r) = false := by
            have a : (c == 45) = false := by simpa using h45
            have b : (c == 43) = false := by simpa using h43
            simp only [signed, a, b, Bool.or_false, Bool.false_and]
          rw [hsg]
          simpa using next
    · refine ev_neg (by omega) ?_
      rw [signed_short _ h1]
      simpa using next
theorem ident_ev (l : List (List UInt8)) (hl : l.length ≤ 100000) (hz : ∀ x ∈ l, x.length ≤ 140737488351232) : Ev (fun k => spec_IdentifiersKnown.f k (l.map ofL)) (idK l) := by
  have := ident_l l hl hz l.length 0 (by omega)
  exact this
end Go.Proofs.YtnbokeodgendkaaDoor.Com
