/- What zeroed answers: a text with a zero ahead of each run of digits. -/
import Derived.Test.YtciojhhncfnagaaDoorZ13
import Derived.Test.YtciojhhncfnagaaDoorBy
namespace Go.Proofs.YtciojhhncfnagaaDoor.Com
open Go.RowKit Go.Proofs.YtciojhhncfnagaaDoor.Z Go.Proofs.YtciojhhncfnagaaDoor.Evs Go.Proofs.YtciojhhncfnagaaDoor.By Go.Proofs.YtciojhhncfnagaaDoorW.PrintWords Go.Proofs.YtciojhhncfnagaaDoorW.PrintLast
set_option linter.unusedVariables false
set_option linter.unusedSimpArgs false

/-- A text with a zero ahead of each run of digits; o: a run is open. -/
def zer0 : Bool → List UInt8 → List UInt8
  | _, [] => []
  | o, c :: l => if dg c && !o then 48 :: c :: zer0 true l else c :: zer0 (dg c) l
theorem zer0_len : ∀ (o : Bool) (l : List UInt8), (zer0 o l).length ≤ 2 * l.length
  | _, [] => by simp [zer0]
  | o, c :: l => by
    have h1 := zer0_len true l
    have h2 := zer0_len (dg c) l
    unfold zer0
    split <;> simp only [List.length_cons] <;> omega
theorem zext (l : List UInt8) (i : Nat) (h : i < l.length) : (ofL l).extract ((i : Int)).toNat (((i + 1 : Nat) : Int)).toNat = ofL [l[i]] := by
  rw [Int.toNat_natCast, Int.toNat_natCast, ofL_extract]
  congr 1
  rw [List.take_succ_eq_append_getElem h, List.drop_append_of_le_length (by rw [List.length_take]; omega), List.drop_of_length_le (by rw [List.length_take]; omega)]
  rfl
theorem zeroed_l (l : List UInt8) (hl : l.length ≤ 1000000) (d : Nat) : ∀ (i : Nat) (acc : List UInt8) (o : Bool), i + d = l.length → acc.length + 2 * d ≤ 1000000000 → Ev (fun k => laws_zeroed.l0 k (ofL l) (ofL acc) o (i : Int)) (ofL (acc ++ zer0 o (l.drop i))) := by
  have hs := ofL_size l
  induction d with
  | zero =>
    intro i acc o h ha
    refine Ev.step (fun _ => by rw [laws_zeroed.l0]) (ev_neg (by omega) (ev_now ?_))
    rw [List.drop_of_length_le (by omega), zer0, List.append_nil]
  | succ d ih =>
    intro i acc o h ha
    have hi : i < l.length := by omega
    have hc := bt_ofL l i hi
    have hw : wrap64 ((i : Int) + 1) = ((i + 1 : Nat) : Int) := wrap_nat (by omega)
    have e : l.drop i = l[i] :: l.drop (i + 1) := List.drop_eq_getElem_cons hi
    have hx := zext l i hi
    have s1 : (ofL [l[i]]).size = 1 := rfl
    have s48 : (⟨#[48]⟩ : ByteArray) = ofL [48] := rfl
    have one : ∀ o', (dg l[i] && !o) = false → o' = dg l[i] → Ev (fun k => if (i : Int) ≤ ((i + 1 : Nat) : Int) then (if ((i + 1 : Nat) : Int) ≤ ((ofL l).size : Int) then (if (ofL acc).size + (ofL [l[i]]).size ≤ 9223372036854775807 then (laws_zeroed.l0 k (ofL l) ((ofL acc) ++ (ofL [l[i]])) o' ((i + 1 : Nat) : Int)) else (none)) else (none)) else (none)) (ofL (acc ++ zer0 o (l.drop i))) := by
      intro o' h1 h2
      refine ev_pos (by omega) (ev_pos (by omega) (ev_pos (by rw [ofL_size, s1]; omega) ?_))
      rw [ofL_append, e, zer0, if_neg (by rw [h1]; decide), ← h2]
      have := ih (i + 1) (acc ++ [l[i]]) o' (by omega) (by rw [List.length_append, List.length_singleton]; omega)
      rwa [List.append_assoc] at this
    have base : dg l[i] = decide (48 ≤ l[i].toNat ∧ l[i].toNat ≤ 57) := rfl
    refine Ev.step (fun _ => by rw [laws_zeroed.l0, hc, hw, hx, s48]) (ev_pos (by omega) (ev_pos (by omega) ?_))
    by_cases c : (l[i].toNat : Int) ≥ 48
    · refine ev_pos c ?_
      by_cases c2 : (l[i].toNat : Int) ≤ 57
      · refine ev_pos c2 ?_
        have hd : dg l[i] = true := by rw [base]; exact decide_eq_true (by omega)
        have h57 : decide ((l[i].toNat : Int) ≤ 57) = true := decide_eq_true c2
        rw [h57]
        cases o with
        | true => exact ev_t (one true (by rw [hd]; rfl) hd.symm)
        | false =>
          refine ev_f (ev_pos (by rw [ofL_size]; omega) (ev_pos (by omega) (ev_pos (by omega) (ev_pos (by rw [ofL_append, ofL_size, s1, List.length_append, List.length_singleton]; omega) ?_))))
          rw [ofL_append, ofL_append, e, zer0, if_pos (by rw [hd]; rfl)]
          have := ih (i + 1) (acc ++ [48] ++ [l[i]]) true (by omega) (by rw [List.length_append, List.length_append, List.length_singleton, List.length_singleton]; omega)
          rw [List.append_assoc, List.append_assoc] at this
          rw [List.append_assoc]
          exact this
      · have hd : dg l[i] = false := by rw [base]; exact decide_eq_false (by omega)
        have h57 : decide ((l[i].toNat : Int) ≤ 57) = false := decide_eq_false c2
        rw [h57]
        exact ev_neg c2 (one false (by rw [hd]; rfl) hd.symm)
    · have hd : dg l[i] = false := by rw [base]; exact decide_eq_false (by omega)
      exact ev_neg c (one false (by rw [hd]; rfl) hd.symm)
theorem zeroed_ev (l : List UInt8) (hl : l.length ≤ 1000000) : Ev (fun k => laws_zeroed.f k (ofL l)) (ofL (zer0 false l)) := by
  have := zeroed_l l hl l.length 0 [] false (by omega) (by simp; omega)
  exact this
end Go.Proofs.YtciojhhncfnagaaDoor.Com
