-- Written by a program of this session (myprint.py).
import Derived.Test.YtmhlmkefnmdbcaaDoorZ0
import Derived.Test.YtmhlmkefnmdbcaaDoorZ7
import Derived.Test.YtmhlmkefnmdbcaaDoorZ10
import Derived.BigQuiet
import Derived.Deep.QuietTactic
import Derived.Test.YtmhlmkefnmdbcaaDoorGe
namespace Go.Proofs.YtmhlmkefnmdbcaaDoor.Z
open Go.Proofs.YtmhlmkefnmdbcaaDoor.Gw
open Go.RowKit Go.Proofs.YtmhlmkefnmdbcaaDoorW.PrintWords Go.Proofs.YtmhlmkefnmdbcaaDoorW.PrintLast Go.Proofs.YtmhlmkefnmdbcaaDoorW.PrintMore
attribute [local go_sem high] Go.Proofs.YtmhlmkefnmdbcaaDoor.Ge.gtr_str
attribute [local go_sem] max2_int min2_int max_two min_two max_three min_three max_four min_four   -- for this text's walks alone
set_option linter.unusedVariables false
set_option linter.unusedSimpArgs false

-- PLUGGED impl_RubyCompare: function 23 (a text of this session)
def impl_RubyCompare.f (k : Nat) (a0 a1 : ByteArray) : Option (Int × Bool) := (semantic_ParseRubyGemsVersion.f k a0).bind fun p => (semantic_ParseRubyGemsVersion.f k a1).bind fun q => (semantic_RubyGemsVersion_compare.f p.1 p.2 q.1 q.2).bind fun t => some (t, true)
theorem impl_RubyCompare.mono : ∀ a0 a1 k, LeO (impl_RubyCompare.f k a0 a1) (impl_RubyCompare.f (k + 1) a0 a1) := by
 intro a0 a1 k
 unfold impl_RubyCompare.f
 exact LeO.bind (semantic_ParseRubyGemsVersion.mono _ _) (fun _ => LeO.bind (semantic_ParseRubyGemsVersion.mono _ _) (fun _ => LeO.refl _))
set_option maxHeartbeats 4000000 in
theorem rb_compareI (e0 : ByteArray) (A : Option Addr) (c : Nat) (a : List ByteArray) (e1 : ByteArray) (A' : Option Addr) (c' : Nat) (b : List ByteArray) (r : Int) (w : World) (hr : Kd.C Kd.string w A a.length a) (hc : a.length ≤ c) (hr' : Kd.C Kd.string w A' b.length b) (hc' : b.length ≤ c') (hG : GW w) (h : semantic_RubyGemsVersion_compare.f e0 a e1 b = some r) :
  Calls Tryd.prog 47 #[.agg #[.string e0, .slice A a.length c], .iface 66 (.agg #[.string e1, .slice A' b.length c'])] w fun e w' => e = .returned (.tuple #[.int .i64 r, .nilIface]) ∧ Below w.heap.size w w' := by
 have hu := Tryd.underlying66
 have HF : Aside0 (∀ W, Below w.heap.size w W → Calls Tryd.prog 68 #[.agg #[.string e0, .slice A a.length c], .agg #[.string e1, .slice A' b.length c']] W fun e w' => e = .returned (.int .i64 r) ∧ Below W.heap.size W w') := ⟨fun W hB => semantic_RubyGemsVersion_compare.calls e0 A c a e1 A' c' b r W (Kd.C_below hr hB) hc (Kd.C_below hr' hB) hc' (GW.below hG hB) h⟩
 have hta : ∀ W : World, (Instr.typeAssert (.iface 66 (.agg #[.string e1, .slice A' b.length c'])) 85 66 true).run Tryd.prog W = .ok (.tuple #[.agg #[.string e1, .slice A' b.length c'], .bool true]) W := fun W => by kernel_rfl
 clear hr hr' hG h
 go_enter Tryd.func47, Tryd.ntmps47
 go_wp2_with (go_at_call 68; refine (HF.out _ ?hbel).mono ?_)
 case hbel => exact ((Below.refl _ _).alloc (Nat.le_refl _) _).alloc (by simp) _
 rintro e W1 ⟨rfl, hb⟩
 have HB : Aside0 (Below w.heap.size w W1) := ⟨by
  refine Below.trans ?_ (hb.mono ?_)
  ·exact ((Below.refl _ _).alloc (Nat.le_refl _) _).alloc (by simp) _
  ·simp; omega⟩
 clear hb
 go_wp2
 go_ret2
 exact ⟨rfl, HB.out⟩
structure RbRet (o : ByteArray) (x : List ByteArray) (w : World) (e : Ending) (w' : World) : Prop where
 h : ∃ v : Value, e = .returned (.agg #[.string o, v]) ∧ Kd.R Kd.string 9 w' w.heap.size (fun _ => True) v x ∧ Below w.heap.size w w'
structure RbRetC (v : Value) (w : World) (e : Ending) (w' : World) : Prop where
 h1 : e = .returned v
 h2 : Below w.heap.size w w'
set_option maxHeartbeats 4000000 in
theorem impl_RubyCompare.calls (k : Nat) (a0 a1 : ByteArray) (r1 : Int) (r2 : Bool) (w : World) (hG : GW w) (h : impl_RubyCompare.f k a0 a1 = some (r1, r2)) :
  Calls Tryd.prog 23 #[.string a0, .string a1] w fun e w' => e = .returned (.tuple #[.int .i64 r1, .bool r2]) ∧ Below w.heap.size w w' := by
 unfold impl_RubyCompare.f at h
 obtain ⟨⟨o0, x⟩, hp, hh⟩ := Option.bind_eq_some_iff.1 h
 clear h
 obtain ⟨⟨o1, y⟩, hq, h⟩ := Option.bind_eq_some_iff.1 hh
 clear hh
 obtain ⟨t, ht, hh⟩ := Option.bind_eq_some_iff.1 h
 clear h
 simp only [Option.some.injEq, Prod.mk.injEq] at hh
 obtain ⟨rfl, rfl⟩ := hh
 have HP : Aside0 (Calls Tryd.prog 46 #[.string a0] w (RbRet o0 x w)) := ⟨(semantic_ParseRubyGemsVersion.calls k a0 o0 x w hG hp).mono fun e w' h => ⟨h⟩⟩
 have HQ := Aside0.mk hq
 have HT := Aside0.mk ht
 have HG := Aside0.mk hG
 clear hp hq ht hG
 go_enter Tryd.func23, Tryd.ntmps23
 go_wp2_with (go_at_call 46; (with_reducible refine (HP.out).mono ?_))
 rintro e W1 ⟨⟨v1, rfl, hv1, hb1⟩⟩
 obtain ⟨A, c, rfl, hc, hr⟩ := Kd.R_reads hv1
 have B1 := Aside0.mk hb1
 have HX := Aside0.mk (And.intro hr hc)
 have HP2 : Aside0 (Calls Tryd.prog 46 #[.string a1] W1 (RbRet o1 y W1)) := ⟨(semantic_ParseRubyGemsVersion.calls k a1 o1 y W1 (GW.below HG.out hb1) HQ.out).mono fun e w' h => ⟨h⟩⟩
 obtain ⟨n, hn⟩ : ∃ n, n = x.length := ⟨_, rfl⟩
 have HN := Aside0.mk hn
 rw [← hn] at hc ⊢
 clear hv1 hb1 hr hc hn HP
 go_wp2_with (go_at_call 46; (with_reducible refine (HP2.out).mono ?_))
 rintro e W2 ⟨⟨v2, rfl, hv2, hb2⟩⟩
 obtain ⟨A', c', rfl, hc', hr'⟩ := Kd.R_reads hv2
 have B2 : Aside0 (Below w.heap.size w W2) := ⟨B1.out.trans (hb2.mono B1.out.size)⟩
 have hC := rb_compareI o0 A c x o1 A' c' y t W2 (Kd.C_below HX.out.1 hb2) HX.out.2 hr' hc' (GW.below HG.out B2.out) HT.out
 rw [← HN.out] at hC
 have HC := Aside0.mk (hC.mono (R' := RbRetC (.tuple #[.int .i64 t, .nilIface]) W2) fun e w' h => ⟨h.1, h.2⟩)
 clear hv2 hb2 hr' hc' hC HP2
 go_wp2_with (go_at_call 47; (with_reducible refine (HC.out).mono ?_))
 rintro e W3 ⟨rfl, hb3⟩
 have B3 : Aside0 (Below w.heap.size w W3) := ⟨B2.out.trans (hb3.mono B2.out.size)⟩
 clear hb3
 go_wp2
 go_quiet (fail)
 go_wp2
 go_ret2
 exact ⟨rfl, by first | exact B3.out | exact pw_below_drewN B3.out _⟩

end Go.Proofs.YtmhlmkefnmdbcaaDoor.Z
