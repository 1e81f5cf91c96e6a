/- What order, orderInts and orderNumbers answer. -/
import Derived.Test.YtnbokeodgendkaaDoorZ9
import Derived.Lib.Bytealg
import Derived.Test.YtnbokeodgendkaaDoorBy
namespace Go.Proofs.YtnbokeodgendkaaDoor.Com
open Go Go.RowKit Go.Proofs.YtnbokeodgendkaaDoor.Z Go.Proofs.YtnbokeodgendkaaDoor.Evs Go.Proofs.YtnbokeodgendkaaDoor.By Go.Proofs.YtnbokeodgendkaaDoorW.PrintWords Go.Proofs.YtnbokeodgendkaaDoorW.PrintLast
set_option linter.unusedVariables false
set_option linter.unusedSimpArgs false

def cmpI (a b : Int) : Int := if a < b then -1 else if b < a then 1 else 0
theorem orderI_f (a b : Int) : spec_orderInts.f a b = some (cmpI a b) := by
  unfold spec_orderInts.f cmpI
  split
  · rfl
  · split
    · rfl
    · rfl
theorem bless : ∀ a b : List UInt8, Op.bytesLess a b = decide (Lib.compareBytes a b = -1)
  | [], [] => rfl
  | [], _ :: _ => rfl
  | _ :: _, [] => rfl
  | x :: a, y :: b => by
    rw [Op.bytesLess, Lib.compareBytes, bless a b]
    by_cases h : x < y
    · rw [if_pos h]
      simp [h]
    · rw [if_neg h]
      by_cases h2 : y < x
      · rw [if_pos h2]
        have : ¬ x = y := fun e => by subst e; exact h h2
        simp [h, this]
      · rw [if_neg h2]
        have : x = y := UInt8.toNat_inj.1 (by have h : ¬ x.toNat < y.toNat := h; have h2 : ¬ y.toNat < x.toNat := h2; omega)
        subst this
        simp [h]
theorem cmpB_range : ∀ a b : List UInt8, Lib.compareBytes a b = -1 ∨ Lib.compareBytes a b = 0 ∨ Lib.compareBytes a b = 1
  | [], [] => .inr (.inl rfl)
  | [], _ :: _ => .inl rfl
  | _ :: _, [] => .inr (.inr rfl)
  | x :: a, y :: b => by
    rw [Lib.compareBytes]
    split
    · exact .inl rfl
    · split
      · exact .inr (.inr rfl)
      · exact cmpB_range a b
theorem cmpB_anti : ∀ a b : List UInt8, Lib.compareBytes b a = -Lib.compareBytes a b
  | [], [] => rfl
  | [], _ :: _ => rfl
  | _ :: _, [] => rfl
  | x :: a, y :: b => by
    rw [Lib.compareBytes, Lib.compareBytes, cmpB_anti a b]
    by_cases h : x < y
    · have h2 : ¬ y < x := fun h2 => by have h : x.toNat < y.toNat := h; have h2 : y.toNat < x.toNat := h2; omega
      rw [if_pos h, if_neg h2, if_pos h]; rfl
    · by_cases h2 : y < x
      · rw [if_pos h2, if_neg h, if_pos h2]
      · rw [if_neg h2, if_neg h, if_neg h, if_neg h2]
theorem order_f (a b : List UInt8) : spec_order.f (ofL a) (ofL b) = some (Lib.compareBytes a b) := by
  unfold spec_order.f
  rw [toList_ofL, toList_ofL, bless, bless, cmpB_anti a b]
  rcases cmpB_range a b with h | h | h <;> rw [h] <;> rfl
/-- Digits without the zeros ahead. -/
def stripZ (l : List UInt8) : List UInt8 := l.dropWhile (· == 48)
def cmpD (a b : List UInt8) : Int := if (stripZ a).length = (stripZ b).length then Lib.compareBytes (stripZ a) (stripZ b) else cmpI ((stripZ a).length : Int) ((stripZ b).length : Int)
theorem strip_not (c : UInt8) (l : List UInt8) (e : ¬ c = 48) : stripZ (c :: l) = c :: l := by
  rw [stripZ, List.dropWhile_cons, if_neg (by simpa using e)]
theorem ext1 (c : UInt8) (r : List UInt8) : (ofL (c :: r)).extract 1 (ofL (c :: r)).size = ofL r := by
  rw [ofL_size, ofL_extract, List.take_length]
  rfl
theorem onum3 (a b : List UInt8) : Ev (fun k => spec_orderNumbers.j3 k (ofL a) (ofL b)) (if a.length = b.length then Lib.compareBytes a b else cmpI (a.length : Int) (b.length : Int)) := by
  refine Ev.step (fun _ => by rw [spec_orderNumbers.j3, ofL_size, ofL_size, order_f, orderI_f]) ?_
  by_cases h : a.length = b.length
  · rw [if_pos h]
    exact ev_pos (by omega) (ev_now rfl)
  · rw [if_neg h]
    exact ev_neg (by omega) (ev_now rfl)
theorem onum1 (a : List UInt8) : ∀ (b : List UInt8), b.length ≤ 140737488351232 → Ev (fun k => spec_orderNumbers.l1 k (ofL a) (ofL b)) (if a.length = (stripZ b).length then Lib.compareBytes a (stripZ b) else cmpI (a.length : Int) ((stripZ b).length : Int))
  | [], _ => Ev.step (fun _ => by rw [spec_orderNumbers.l1]) (ev_neg (by rw [ofL_size]; simp) (onum3 a []))
  | c :: b, h => by
    have hb : bt (ofL (c :: b)) 0 = (c.toNat : Int) := bt_ofL (c :: b) 0 (by simp)
    have hs := ofL_size (c :: b)
    have hl : (c :: b).length = b.length + 1 := rfl
    refine Ev.step (fun _ => by rw [spec_orderNumbers.l1, hb, ext1]) (ev_pos (by omega) (ev_pos (by omega) ?_))
    by_cases e : c = 48
    · subst e
      refine ev_pos rfl (ev_pos (by omega) ?_)
      have := onum1 a b (by omega)
      rw [show stripZ (48 :: b) = stripZ b from rfl]
      exact this
    · refine ev_neg (fun h => e (UInt8.toNat_inj.1 (by have : (48 : UInt8).toNat = 48 := rfl; omega))) ?_
      rw [strip_not c b e]
      exact onum3 a (c :: b)
theorem onum0 (b : List UInt8) (hb0 : b.length ≤ 140737488351232) : ∀ (a : List UInt8), a.length ≤ 140737488351232 → Ev (fun k => spec_orderNumbers.l0 k (ofL a) (ofL b)) (cmpD a b)
  | [], _ => Ev.step (fun _ => by rw [spec_orderNumbers.l0]) (ev_neg (by rw [ofL_size]; simp) (Ev.step (fun _ => by rw [spec_orderNumbers.j1]) (onum1 [] b hb0)))
  | c :: a, h => by
    have hb : bt (ofL (c :: a)) 0 = (c.toNat : Int) := bt_ofL (c :: a) 0 (by simp)
    have hs := ofL_size (c :: a)
    have hl : (c :: a).length = a.length + 1 := rfl
    refine Ev.step (fun _ => by rw [spec_orderNumbers.l0, hb, ext1]) (ev_pos (by omega) (ev_pos (by omega) ?_))
    by_cases e : c = 48
    · subst e
      refine ev_pos rfl (ev_pos (by omega) ?_)
      have := onum0 b hb0 a (by omega)
      rw [cmpD, show stripZ (48 :: a) = stripZ a from rfl]
      exact this
    · refine ev_neg (fun h => e (UInt8.toNat_inj.1 (by have : (48 : UInt8).toNat = 48 := rfl; omega))) ?_
      rw [cmpD, strip_not c a e]
      exact Ev.step (fun _ => by rw [spec_orderNumbers.j1]) (onum1 (c :: a) b hb0)
theorem orderNumbers_ev (a b : List UInt8) (ha : a.length ≤ 140737488351232) (hb : b.length ≤ 140737488351232) : Ev (fun k => spec_orderNumbers.f k (ofL a) (ofL b)) (cmpD a b) := onum0 b hb a ha
end Go.Proofs.YtnbokeodgendkaaDoor.Com
