/- What the guard zzFits1 answers. -/
import Derived.Test.YtajglnedoeboaaaDoorZ2
import Derived.Test.YtajglnedoeboaaaDoorEv
namespace Go.Proofs.YtajglnedoeboaaaDoor.Com
open Go.RowKit Go.Proofs.YtajglnedoeboaaaDoor.Z Go.Proofs.YtajglnedoeboaaaDoor.Evs Go.Proofs.YtajglnedoeboaaaDoorW.PrintWords Go.Proofs.YtajglnedoeboaaaDoorW.PrintLast
set_option linter.unusedVariables false
set_option linter.unusedSimpArgs false

theorem fits_l (l : List ByteArray) (hl : (l.length : Int) < 9223372036854775807) (d : Nat) : ∀ i : Nat, i + d = l.length → ∃ b, Ev (fun k => laws_zzFits1.l0 k l (l.length : Int) (i : Int)) b := by
  induction d with
  | zero =>
    intro i h
    refine ⟨true, Ev.step (fun _ => by rw [laws_zzFits1.l0]) (ev_neg (by omega) (Ev.now _))⟩
  | succ d ih =>
    intro i h
    obtain ⟨b, hb⟩ := ih (i + 1) (by omega)
    by_cases c : ((rdOf ByteArray.empty l (i : Int)).size : Int) > 2147483647
    · exact ⟨false, Ev.step (fun _ => by rw [laws_zzFits1.l0]) (ev_pos (by omega) (ev_pos (by omega) (ev_pos (by omega) (ev_pos c (Ev.now _)))))⟩
    · exact ⟨b, Ev.step (fun _ => by rw [laws_zzFits1.l0, wrap_nat (by omega)]) (ev_pos (by omega) (ev_pos (by omega) (ev_pos (by omega) (ev_neg c hb))))⟩
theorem fits_ev (l : List ByteArray) (hl : l.length ≤ 9223372036854775807) : ∃ b, Ev (fun k => laws_zzFits1.f k l) b := by
  unfold laws_zzFits1.f
  by_cases c : (l.length : Int) > 2147483647
  · exact ⟨_, ev_pos c (Ev.now _)⟩
  · obtain ⟨b, hb⟩ := fits_l l (by omega) l.length 0 (by omega)
    exact ⟨b, ev_neg c hb⟩
end Go.Proofs.YtajglnedoeboaaaDoor.Com
