/- What Ascii answers. -/
import Derived.Test.YtfogdolfanfocaaZ2
import Derived.Test.YtfogdolfanfocaaEv
namespace Go.Proofs.Ytfogdolfanfocaa.Com
open Go.RowKit Go.Proofs.Ytfogdolfanfocaa.Z Go.Proofs.Ytfogdolfanfocaa.Evs Go.Proofs.YtfogdolfanfocaaW.PrintWords Go.Proofs.YtfogdolfanfocaaW.PrintLast
set_option linter.unusedVariables false
set_option linter.unusedSimpArgs false

/-- Ascii: an answer; where it is true every byte is below 128. -/
theorem ascii_l (s : ByteArray) (hs : s.size ≤ 140737488351232) (d : Nat) : ∀ i : Nat, i + d = s.size → ∃ r, Ev (fun k => spec_Ascii.l0 k s (i : Int)) r ∧ (r = true → ∀ j : Nat, i ≤ j → (h : j < s.size) → (s[j]'h).toNat < 128) := by
  induction d with
  | zero => intro i h; exact ⟨true, Ev.step (fun _ => by rw [spec_Ascii.l0]) (ev_neg (by omega) (Ev.now _)), fun _ j h1 h2 => by omega⟩
  | succ d ih =>
    intro i h
    obtain ⟨r, hr, hq⟩ := ih (i + 1) (by omega)
    have hb := bt_nat s i (by omega)
    by_cases c : bt s (i : Int) > 127
    · exact ⟨false, Ev.step (fun _ => by rw [spec_Ascii.l0]) (ev_pos (by omega) (ev_pos (by omega) (ev_pos c (Ev.now _)))), fun h => by cases h⟩
    · refine ⟨r, Ev.step (fun _ => by rw [spec_Ascii.l0, wrap_nat (by omega)]) (ev_pos (by omega) (ev_pos (by omega) (ev_neg c hr))), fun h j h1 h2 => ?_⟩
      by_cases e : j = i
      · subst e; omega
      · exact hq h j (by omega) h2
theorem ascii_ev (s : ByteArray) (hs : s.size ≤ 140737488351232) : ∃ r, Ev (fun k => spec_Ascii.f k s) r ∧ (r = true → ∀ j : Nat, (h : j < s.size) → (s[j]'h).toNat < 128) := by
  obtain ⟨r, hr, hq⟩ := ascii_l s hs s.size 0 (by omega)
  exact ⟨r, hr, fun h j hj => hq h j (by omega) hj⟩
end Go.Proofs.Ytfogdolfanfocaa.Com
