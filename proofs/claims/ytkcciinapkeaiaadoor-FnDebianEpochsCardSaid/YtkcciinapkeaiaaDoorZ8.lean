-- Written by a program of this session (myprint.py).
import Derived.Test.YtkcciinapkeaiaaDoorZ0
import Derived.Test.YtkcciinapkeaiaaDoorShelf
import Derived.Lib.LastIndexByte
import Derived.Test.YtkcciinapkeaiaaDoorGe
namespace Go.Proofs.YtkcciinapkeaiaaDoor.Z
open Go.Proofs.YtkcciinapkeaiaaDoor.Gw
open Go.RowKit Go.Proofs.YtkcciinapkeaiaaDoorW.PrintWords Go.Proofs.YtkcciinapkeaiaaDoorW.PrintLast Go.Proofs.YtkcciinapkeaiaaDoorW.PrintMore
attribute [local go_sem high] Go.Proofs.YtkcciinapkeaiaaDoor.Ge.gtr_str
attribute [local go_sem] max2_int min2_int max_two min_two max_three min_three max_four min_four   -- for this text's walks alone
set_option linter.unusedVariables false
set_option linter.unusedSimpArgs false

-- PLUGGED strings_LastIndex: function 57 (a text of this session)
def strings_LastIndex.f (a0 a1 : ByteArray) : Option Int := if h : a1.size = 1 ∧ a0.size ≤ 140737488351232 then some (Lib.lastIndexByte a0 ((a1[0]'(by omega)).toNat : Int)) else none
theorem strings_LastIndex.calls (a0 a1 : ByteArray) (r : Int) (w : World) (h : strings_LastIndex.f a0 a1 = some r) :
    Calls Tryd.prog 57 #[.string a0, .string a1] w fun e w' => e = .returned (.int .i64 r) ∧ Below w.heap.size w w' := by
  unfold strings_LastIndex.f at h
  split at h
  · rename_i hf
    obtain rfl := Option.some.inj h
    refine (Tryd.strings_LastIndex_one a0 a1 hf.1 (by omega) w).mono ?_
    rintro e w' ⟨rfl, rfl⟩
    exact ⟨rfl, Below.refl _ _⟩
  · cases h

end Go.Proofs.YtkcciinapkeaiaaDoor.Z
