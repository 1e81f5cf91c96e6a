/- Numbers read from texts: convertToBigInt. -/
import Derived.Test.YtnbokeodgendkaaDoorProg
import Derived.Below
import Derived.Deep.Draws
import Derived.Deep.AppendLies
import Derived.Maps.AppendAt
import Derived.OwnWalk
import Derived.Laws.BytesArg
import Derived.Laws.MakeOwn
import Derived.Laws.OwnMore
import Derived.Deep.OwnRows
import Derived.Tactics
import Derived.Lib.ConvBytes
import Derived.Laws.Slices
import Derived.WalkKit
import Derived.KernelRfl
import Derived.RowKit3
import Derived.Deep.LoopGhost
import Derived.Deep.QuietTactic
import Derived.BigQuiet
import Derived.WideLaws
import Derived.Deep.DeepCutAuto
import Derived.Deep.CutBlock
import Derived.Deep.RegionHeld3
import Derived.Laws.Rows
import Derived.Lib.AppendStr
import Derived.ArgAppend
import Derived.Laws.IdiomCopy
import Derived.OrdersHeld
import Derived.Laws.BitsLemmas
import Derived.RowKit
import Derived.Test.YtnbokeodgendkaaDoorWWords
import Derived.Test.YtnbokeodgendkaaDoorWLast
import Derived.Test.YtnbokeodgendkaaDoorWMore
import Derived.Test.YtnbokeodgendkaaDoorWN
import Derived.Test.YtnbokeodgendkaaDoorWKept
import Derived.Test.YtnbokeodgendkaaDoorWShare
import Derived.Test.YtnbokeodgendkaaDoorWInvWords
import Derived.Test.YtnbokeodgendkaaDoorGe
import Derived.Test.YtnbokeodgendkaaDoorGw
import Derived.Test.YtnbokeodgendkaaDoorSsA
import Derived.Test.YtnbokeodgendkaaDoorSsB
import Derived.Test.YtnbokeodgendkaaDoorSsC
namespace Go.Proofs.YtnbokeodgendkaaDoor.Ss
open Go Go.RowKit Go.Proofs.YtnbokeodgendkaaDoorW.PrintWords Go.Proofs.YtnbokeodgendkaaDoorW.PrintLast Go.Proofs.YtnbokeodgendkaaDoorW.PrintMore
attribute [local go_sem high] Go.Proofs.YtnbokeodgendkaaDoor.Ge.gtr_str
attribute [local go_sem] max2_int min2_int max_two min_two max_three min_three max_four min_four
set_option linter.unusedVariables false
set_option linter.unusedSimpArgs false

open Go.Proofs.YtnbokeodgendkaaDoor.Gw
attribute [local go_sem] EV
/-- What convertToBigInt answers. -/
def CvP (s : ByteArray) (w : World) (e : Ending) (w' : World) : Prop := Below w.heap.size w w' ∧
  ((cvt s = none ∧ ∃ a, e = .returned (.tuple #[.pointer none, EV a])) ∨
   (∃ (z : Int) (o : Nat), cvt s = some z ∧ e = .returned (.tuple #[.pointer (some ⟨o, 0, none⟩), .nilIface]) ∧ Big.Own w' w.heap.size (fun _ => True) z (.pointer (some ⟨o, 0, none⟩))))
set_option maxRecDepth 100000 in
set_option maxHeartbeats 2000000 in
theorem ss_convert (s : ByteArray) (w : World) (hs : s.size ≤ 1000000) (hG : GW w) : Calls Tryd.prog 39 #[.string s] w (CvP s w) := by
  obtain ⟨a, a2, a3, h1, h2, h3⟩ := hG
  obtain ⟨WA, hWA⟩ : ∃ WA : World, WA = w.alloc (.cells #[.bool false, .slice none 0 0] Big.TI) := ⟨_, rfl⟩
  have hBA : Below w.heap.size w WA := by rw [hWA]; exact (Below.refl _ _).alloc (Nat.le_refl _) _
  have hC := Aside0.mk (ss_SetString s w.heap.size a a2 WA hs (by rw [hWA]; simp) (by rw [hWA]; exact blk_new w _) (h1.below hBA) (h2.below hBA) h1.lt h2.lt)
  have HBA := Aside0.mk hBA
  have HIV : Aside0 (∀ W, Below w.heap.size w W → W.cell? ⟨gIV, 0, none⟩ = some (EV a3)) := ⟨fun W h => h3.below h⟩
  rw [hWA] at hC HBA
  clear h1 h2 h3 hWA hBA
  go_enter Tryd.func39, Tryd.ntmps39
  go_wp2_with (go_at_call 57; (with_reducible refine (hC.out).mono ?_))
  rintro e W2 ⟨hB, h⟩
  have HB := Aside0.mk (HBA.out.trans hB)
  clear hB
  rcases h with ⟨hn, rfl⟩ | ⟨z, hz, rfl, hO⟩
  · have HN := Aside0.mk hn
    have hq := HIV.out W2 HB.out
    clear hn hC HBA
    go_wp2
    go_quiet (fail)
    go_wp2
    go_ret2
    exact ⟨pw_below_drewN HB.out _, .inl ⟨HN.out, _, rfl⟩⟩
  · have HN := Aside0.mk (And.intro hz hO)
    clear hz hO hC HBA
    go_wp2
    go_ret2
    exact ⟨HB.out, .inr ⟨z, _, HN.out.1, rfl, HN.out.2⟩⟩

end Go.Proofs.YtnbokeodgendkaaDoor.Ss
