-- Written by a program of this session (myprint.py).
import Derived.Test.YtciojhhncfnagaaDoorZ0
import Derived.Test.YtciojhhncfnagaaDoorZ4
import Derived.Test.YtciojhhncfnagaaDoorZ6
import Derived.Test.YtciojhhncfnagaaDoorRh
import Derived.Test.YtciojhhncfnagaaDoorGe
namespace Go.Proofs.YtciojhhncfnagaaDoor.Z
open Go.RowKit Go.Proofs.YtciojhhncfnagaaDoorW.PrintWords Go.Proofs.YtciojhhncfnagaaDoorW.PrintLast Go.Proofs.YtciojhhncfnagaaDoorW.PrintMore
attribute [local go_sem high] Go.Proofs.YtciojhhncfnagaaDoor.Ge.gtr_str
attribute [local go_sem] max2_int min2_int max_two min_two max_three min_three max_four min_four   -- for this text's walks alone
set_option linter.unusedVariables false
set_option linter.unusedSimpArgs false

-- PLUGGED impl_RedHatCompare: function 13 (a text of this session)
open Go.Proofs.YtciojhhncfnagaaDoor Go.Proofs.YtciojhhncfnagaaDoor.Rh
def impl_RedHatCompare.f (k : Nat) (a0 a1 : ByteArray) : Option (Int × Bool) := (semantic_ParseRedHatVersion.f k a0).bind fun p => (semantic_ParseRedHatVersion.f k a1).bind fun q => (semantic_RedHatVersion_compare.f p.1 p.2.1 p.2.2 q.1 q.2.1 q.2.2).bind fun t => some (t, true)
theorem impl_RedHatCompare.mono : ∀ a0 a1 k, LeO (impl_RedHatCompare.f k a0 a1) (impl_RedHatCompare.f (k + 1) a0 a1) := by
  intro a0 a1 k
  unfold impl_RedHatCompare.f
  exact LeO.bind (semantic_ParseRedHatVersion.mono _ _) (fun _ => LeO.bind (semantic_ParseRedHatVersion.mono _ _) (fun _ => LeO.refl _))
structure RetB (v : Value) (w : World) (e : Ending) (w' : World) : Prop where
  h1 : e = .returned v
  h2 : Below w.heap.size w w'
set_option maxHeartbeats 4000000 in
theorem rh_compareI (e0 v0 r0 e1 v1 r1 : ByteArray) (r : Int) (w : World) (h : semantic_RedHatVersion_compare.f e0 v0 r0 e1 v1 r1 = some r) :
    Calls Tryd.prog 26 #[.agg #[.string e0, .string v0, .string r0], .iface 47 (.agg #[.string e1, .string v1, .string r1])] w fun e w' => e = .returned (.tuple #[.int .i64 r, .nilIface]) ∧ Below w.heap.size w w' := by
  have hu := Tryd.underlying47
  have HF : Aside0 (∀ W, Calls Tryd.prog 37 #[.agg #[.string e0, .string v0, .string r0], .agg #[.string e1, .string v1, .string r1]] W fun e w' => e = .returned (.int .i64 r) ∧ Below W.heap.size W w') := ⟨fun W => semantic_RedHatVersion_compare.calls _ _ _ _ _ _ r W h⟩
  have hta : ∀ W : World, (Instr.typeAssert (.iface 47 (.agg #[.string e1, .string v1, .string r1])) 61 47 true).run Tryd.prog W = .ok (.tuple #[.agg #[.string e1, .string v1, .string r1], .bool true]) W := fun W => by kernel_rfl
  clear h
  go_enter Tryd.func26, Tryd.ntmps26
  go_wp2_with (go_at_call 37; refine (HF.out _).mono ?_)
  rintro e W1 ⟨rfl, hb⟩
  have HB : Aside0 (Below w.heap.size w W1) := ⟨by
    refine Below.trans ?_ (hb.mono ?_)
    · exact ((Below.refl _ _).alloc (Nat.le_refl _) _).alloc (by simp) _
    · simp; omega⟩
  clear hb
  go_wp2
  go_ret2
  exact ⟨rfl, HB.out⟩
set_option maxHeartbeats 4000000 in
theorem impl_RedHatCompare.calls (k : Nat) (a0 a1 : ByteArray) (r1 : Int) (r2 : Bool) (w : World) (h : impl_RedHatCompare.f k a0 a1 = some (r1, r2)) :
    Calls Tryd.prog 13 #[.string a0, .string a1] w fun e w' => e = .returned (.tuple #[.int .i64 r1, .bool r2]) ∧ Below w.heap.size w w' := by
  unfold impl_RedHatCompare.f at h
  obtain ⟨⟨e0, v0, x0⟩, hp, hh⟩ := Option.bind_eq_some_iff.1 h
  clear h
  obtain ⟨⟨e1, v1, x1⟩, hq, h⟩ := Option.bind_eq_some_iff.1 hh
  clear hh
  obtain ⟨t, ht, hh⟩ := Option.bind_eq_some_iff.1 h
  clear h
  simp only [Option.some.injEq, Prod.mk.injEq] at hh
  obtain ⟨rfl, rfl⟩ := hh
  have HP : Aside0 (∀ W, Calls Tryd.prog 25 #[.string a0] W (RetB (.agg #[.string e0, .string v0, .string x0]) W)) := ⟨fun W => (semantic_ParseRedHatVersion.calls k a0 e0 v0 x0 W hp).mono fun e w' ⟨h1, h2⟩ => ⟨h1, h2⟩⟩
  have HQ : Aside0 (∀ W, Calls Tryd.prog 25 #[.string a1] W (RetB (.agg #[.string e1, .string v1, .string x1]) W)) := ⟨fun W => (semantic_ParseRedHatVersion.calls k a1 e1 v1 x1 W hq).mono fun e w' ⟨h1, h2⟩ => ⟨h1, h2⟩⟩
  have HC : Aside0 (∀ W, Calls Tryd.prog 26 #[.agg #[.string e0, .string v0, .string x0], .iface 47 (.agg #[.string e1, .string v1, .string x1])] W (RetB (.tuple #[.int .i64 t, .nilIface]) W)) := ⟨fun W => (rh_compareI _ _ _ _ _ _ t W ht).mono fun e w' ⟨h1, h2⟩ => ⟨h1, h2⟩⟩
  clear hp hq ht
  go_enter Tryd.func13, Tryd.ntmps13
  go_wp2_with (go_at_call 25; (with_reducible refine (HP.out _).mono ?_))
  rintro e W1 ⟨rfl, hb1⟩
  have B1 := Aside0.mk hb1
  clear hb1
  go_wp2_with (go_at_call 25; (with_reducible refine (HQ.out _).mono ?_))
  rintro e W2 ⟨rfl, hb2⟩
  have B2 : Aside0 (Below w.heap.size w W2) := ⟨B1.out.trans (hb2.mono B1.out.size)⟩
  clear hb2
  go_wp2_with (go_at_call 26; (with_reducible refine (HC.out _).mono ?_))
  rintro e W3 ⟨rfl, hb3⟩
  have B3 : Aside0 (Below w.heap.size w W3) := ⟨B2.out.trans (hb3.mono B2.out.size)⟩
  clear hb3
  go_wp2
  go_quiet (fail)
  go_wp2
  go_ret2
  exact ⟨rfl, by first | exact B3.out | exact pw_below_drewN B3.out _⟩

end Go.Proofs.YtciojhhncfnagaaDoor.Z
