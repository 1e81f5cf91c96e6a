/- Whole numbers of any length: *big.Int as a kind of the print's words; what the few functions that make and compare them do. -/
import Derived.Test.YtipfmkfpaglkkaaGreatDoorWW
import Derived.Test.YtipfmkfpaglkkaaGreatDoorEv


namespace Go.Proofs.YtipfmkfpaglkkaaGreatDoor.Big
open Go.RowKit Go.Proofs.YtipfmkfpaglkkaaGreatDoorW.PrintWords Go.Proofs.YtipfmkfpaglkkaaGreatDoorW.PrintLast Go.Proofs.YtipfmkfpaglkkaaGreatDoorW.PrintMore
attribute [local go_sem] max2_int min2_int max_two min_two max_three min_three max_four min_four
set_option linter.unusedVariables false
set_option linter.unusedSimpArgs false

abbrev TI : Nat := 79
abbrev TW : Nat := 105
def natW : List Int → Int
  | [] => 0
  | x :: l => x + 18446744073709551616 * natW l
def okW (ws : List Int) : Prop := (∀ x ∈ ws, 0 ≤ x ∧ x ≤ 18446744073709551615) ∧ ws.getLast? ≠ some 0
def valW (neg : Bool) (ws : List Int) : Int := if neg then -natW ws else natW ws
/-- A number at a pointer: read. -/
def At (w : World) (z : Int) (v : Value) : Prop := ∃ (o : Nat) (A : Option Addr) (c : Nat) (neg : Bool) (ws : List Int), v = .pointer (some ⟨o, 0, none⟩) ∧ w.heap[o]? = some (.cells #[.bool neg, .slice A ws.length c] TI (0, 0)) ∧
  Kd.C (Kd.int .u64) w A ws.length ws ∧ ws.length ≤ c ∧ okW ws ∧ (neg = true → ws ≠ []) ∧ z = valW neg ws
/-- A number of the call's own. -/
def Own (w : World) (base : Nat) (ok : Nat → Prop) (z : Int) (v : Value) : Prop := ∃ (o : Nat) (u : Value) (neg : Bool) (ws : List Int), v = .pointer (some ⟨o, 0, none⟩) ∧ ok o ∧ base ≤ o ∧ w.heap[o]? = some (.cells #[.bool neg, u] TI (0, 0)) ∧
  Kd.R (Kd.int .u64) TW w base ok u ws ∧ okW ws ∧ (neg = true → ws ≠ []) ∧ z = valW neg ws
theorem Own.at_ {w : World} {base : Nat} {ok : Nat → Prop} {z : Int} {v : Value} (h : Own w base ok z v) : At w z v := by
  obtain ⟨o, u, neg, ws, h1, h2, h3, h4, h5, h6, h7, h8⟩ := h
  obtain ⟨A, c, rfl, hc, hr⟩ := Kd.R_reads h5
  exact ⟨o, A, c, neg, ws, h1, h4, hr, hc, h6, h7, h8⟩
theorem At.below {w w1 : World} {z : Int} {v : Value} (h : At w z v) (hb : Below w.heap.size w w1) : At w1 z v := by
  obtain ⟨o, A, c, neg, ws, h1, h2, h3, h4⟩ := h
  exact ⟨o, A, c, neg, ws, h1, (hb.block o (Array.getElem?_eq_some_iff.1 h2).1).trans h2, Kd.C_below h3 hb, h4⟩
theorem Own.mono {w : World} {base : Nat} {ok ok' : Nat → Prop} {z : Int} {v : Value} (hk : ∀ k, ok k → ok' k) (h : Own w base ok z v) : Own w base ok' z v := by
  obtain ⟨o, u, neg, ws, h1, h2, h3, h4, h5, h6⟩ := h
  exact ⟨o, u, neg, ws, h1, hk o h2, h3, h4, Kd.R_mono h5 hk, h6⟩
theorem Own.lower {w : World} {base base' : Nat} {ok : Nat → Prop} {z : Int} {v : Value} (hk : base' ≤ base) (h : Own w base ok z v) : Own w base' ok z v := by
  obtain ⟨o, u, neg, ws, h1, h2, h3, h4, h5, h6⟩ := h
  exact ⟨o, u, neg, ws, h1, h2, Nat.le_trans hk h3, h4, Kd.R_lower h5 hk, h6⟩
theorem Own.move {w w1 : World} {base : Nat} {ok : Nat → Prop} {z : Int} {v : Value} (hk : ∀ k, ok k → w1.heap[k]? = w.heap[k]?) (h : Own w base ok z v) : Own w1 base ok z v := by
  obtain ⟨o, u, neg, ws, h1, h2, h3, h4, h5, h6⟩ := h
  exact ⟨o, u, neg, ws, h1, h2, h3, (hk o h2).trans h4, Kd.R_move h5 hk, h6⟩
theorem Own.bound {w : World} {base : Nat} {ok : Nat → Prop} {z : Int} {v : Value} (h : Own w base ok z v) :
    Own w base (fun k => ok k ∧ base ≤ k ∧ k < w.heap.size ∧ ∃ q, q ∈ [TI, TW] ∧ ∃ cells, w.heap[k]? = some (.cells cells q (0, 0))) z v := by
  obtain ⟨o, u, neg, ws, h1, h2, h3, h4, h5, h6⟩ := h
  refine ⟨o, u, neg, ws, h1, ⟨h2, h3, (Array.getElem?_eq_some_iff.1 h4).1, TI, by simp, _, h4⟩, h3, h4, Kd.R_mono (Kd.R_bound h5) ?_, h6⟩
  rintro k ⟨a, b, c, q, hq, hc⟩
  refine ⟨a, b, c, q, ?_, hc⟩
  have : q = TW := by
    rcases List.mem_cons.1 hq with h | h
    · exact h
    · exact absurd h (by simp [Kd.int, Kd.scalar])
  rw [this]
  simp
theorem At.one {w : World} {z : Int} {v : Value} (h : At w z v) : v.oneCell' = true := by
  obtain ⟨o, A, c, neg, ws, rfl, _⟩ := h
  rfl
/-- The kind of *big.Int among the print's words. -/
def kd : Kd Int where
  sz := 1
  E := [TI, TW]
  K w z cs := ∃ v, cs = [v] ∧ At w z v
  M w base ok z cs := ∃ v, cs = [v] ∧ Own w base ok z v
  K_len := by rintro w x cs ⟨v, rfl, _⟩; rfl
  K_one := by
    rintro w x cs ⟨v, rfl, h⟩ u hu
    rw [List.mem_singleton.1 hu]
    exact h.one
  K_below := by rintro w w1 x cs hb ⟨v, rfl, h⟩; exact ⟨v, rfl, h.below hb⟩
  K_of_M := by rintro w base ok x cs ⟨v, rfl, h⟩; exact ⟨v, rfl, h.at_⟩
  M_mono := by rintro w base ok ok' x cs hk ⟨v, rfl, h⟩; exact ⟨v, rfl, h.mono hk⟩
  M_bound := by rintro w base ok x cs ⟨v, rfl, h⟩; exact ⟨v, rfl, h.bound⟩
  M_move := by rintro w w1 base ok x cs hk ⟨v, rfl, h⟩; exact ⟨v, rfl, h.move hk⟩
  M_lower := by rintro w base base' ok x cs hk ⟨v, rfl, h⟩; exact ⟨v, rfl, h.lower hk⟩
end Go.Proofs.YtipfmkfpaglkkaaGreatDoor.Big
