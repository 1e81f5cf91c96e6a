-- Written by a program of this session (myprint.py).
import Derived.Test.YtcagdmeiigjkcaaRows
import Derived.Test.YtcagdmeiigjkcaaZ8
import Derived.Test.YtcagdmeiigjkcaaPureFnNumbersFilled
import Derived.Test.YtcagdmeiigjkcaaOp
import Derived.WalkKit
import Derived.ProofKit
import Derived.OpenShut
import Derived.ShutString
import Derived.ChangeOld
import Derived.Below
import Derived.SizedLaws
namespace Go.Proofs.Ytcagdmeiigjkcaa.fnNumbersFilled
open Go.ChangeShapes Go.WideShapes Go.ChangeAt Go.RowKit Go.Proofs.Ytcagdmeiigjkcaa.Op Go.Proofs.Ytcagdmeiigjkcaa.Z Go.Proofs.YtcagdmeiigjkcaaW.PrintWords
open Go.ChangeMaps (open_string shut_string)
set_option linter.unusedVariables false
set_option linter.unusedSimpArgs false
theorem own : ownKnob Try.prog.godebug = none := by kernel_rfl
theorem laidOut : laidOutB Try.prog = true := by kernel_rfl
set_option maxRecDepth 100000 in
theorem opens_k28 : Opens Try.prog 28 k28 := by
  intro H enc w base spare held fuel cs x h
  obtain ⟨hl, n, hf⟩ := trod_fields Try.underlying28 h
  have hl' : cs.length = 2 := hl.trans (by kernel_rfl)
  obtain ⟨a0, h0⟩ := open_field hf 0 4 0 1 (by rfl) (by kernel_rfl) (Opens.bool Try.underlying4)
  obtain ⟨a1, h1⟩ := open_field hf 1 9 1 1 (by rfl) (by kernel_rfl) (Opens.string Try.underlying9)
  exact ⟨(⟨a0, a1⟩ : S28), (Exists.intro _ (Exists.intro _ (And.intro (split_at cs 0 1) (And.intro h0 ((last_at cs 1 1 (by omega)) ▸ h1)))))⟩
set_option maxRecDepth 100000 in
theorem lifted (os : Os) (started : os.Started) (H : Type) (enc : TypeId × Value → H) :
    ReturnsInHanded {} Try.checked os 4 .any (Rows.fnNumbersFilledSpec.pre6 enc Try.prog Try.f4 Rows.fnNumbersFilledRow.domain false) (Rows.fnNumbersFilledSpec.post enc Try.prog Try.f4 false true false false) := by
  refine returnsInHanded_of_change_sized (C := Try.checked) own started (by kernel_rfl) Try.func4
    (ChangeSpec.witness6 (enc := enc) (C := Try.checked) false ⟨#[], #[.slice none 0 0, .slice none 0 0, .int .u8 0], []⟩ 8 (by kernel_rfl) (by kernel_rfl) (by kernel_rfl) (by kernel_rfl)) ?_
  intro W base args ds gs before hval0 hW hcnd hsz0 _
  have hsz : (DataW.weightsEach Try.prog (Try.f4.params.toList ++ Rows.fnNumbersFilledSpec.plain.varTypes Try.prog) (ds ++ gs)).all (· ≤ reachBytes) = true := hsz0
  have hval : ∀ (j : Nat) t v, Try.f4.params[j]? = some t → args[j]? = some v → Value.okWide Try.prog W .any base t v := hval0
  have hW' := hW
  obtain ⟨p, q, hA0, hV, rfl, hfz, hnd⟩ := hW
  have hA : DataW.TrodAll enc Try.prog W 0 (fun _ => true) true Try.f4.params.toList args.toList ds p := hA0
  rw [Try.params4] at hA hval hsz
  obtain ⟨v0, vs0, d0, ds0, p0, q0, hargs, rfl, rfl, h0, r0⟩ := trodAll_cons hA
  obtain ⟨v1, vs1, d1, ds1, p1, q1, rfl, rfl, rfl, h1, r1⟩ := trodAll_cons r0
  obtain ⟨v2, vs2, d2, ds2, p2, q2, rfl, rfl, rfl, h2, r2⟩ := trodAll_cons r1
  obtain ⟨rfl, rfl, rfl⟩ := trodAll_nil r2
  obtain rfl : args = #[v0, v1, v2] := by cases args; simp_all
  obtain ⟨rfl, rfl⟩ := trodVars_none hV
  obtain ⟨A0, n0, c0, rfl⟩ := okWide_slice Try.underlying22 (hval 0 22 v0 rfl rfl)
  have k0 := h0
  have lt0 : ∀ x ∈ p0, x.block < W.heap.size := by obtain ⟨m, hm⟩ := k0; exact DataW.trod_lt m _ _ _ hm
  obtain ⟨l0, rfl, hc0, hr0, hm0⟩ := open_slice (Opens.slice Try.underlying22 (by kernel_rfl) opens_k28) h0
  obtain ⟨A1, n1, c1, rfl⟩ := okWide_slice Try.underlying22 (hval 1 22 v1 rfl rfl)
  have k1 := h1
  have lt1 : ∀ x ∈ p1, x.block < W.heap.size := by obtain ⟨m, hm⟩ := k1; exact DataW.trod_lt m _ _ _ hm
  obtain ⟨l1, rfl, hc1, hr1, hm1⟩ := open_slice (Opens.slice Try.underlying22 (by kernel_rfl) opens_k28) h1
  obtain ⟨a2, rfl, rfl, rfl, w2⟩ := open_int Try.underlying5 (hval 2 5 v2 rfl rfl) h2
  clear hA0 hval0 hsz0 hsz
  refine (laws_FnNumbersFilled.walk Pure.FnNumbersFilled A0 c0 l0 A1 c1 l1 a2 W hm0 hm1 w2 hr0 hc0 hr1 hc1).mono fun e W' ⟨he, bel⟩ => ?_
  subst he
  exact ⟨_, rfl, _, _, _, [], _, [], hW', trodAll_mk1 (shut_bool Try.underlying4 _), (trodAll_cons_mk (Below.trod laidOut (by kernel_rfl) (of_decide_eq_true (by kernel_rfl)) k0 bel lt0) (trodAll_cons_mk (Below.trod laidOut (by kernel_rfl) (of_decide_eq_true (by kernel_rfl)) k1 bel lt1) (trodAll_cons_mk (shut_int Try.underlying5 w2) trodAll_mk0))), rfl, bel.frame _, fun h => by cases h⟩
theorem over : Rows.fnNumbersFilledRow.holds Try.pinned (OpenSpec.ofChange Rows.fnNumbersFilledSpec) :=
  OpenClaim.holds_of_wide 4 Try.f4 rfl rfl rfl rfl rfl rfl rfl ⟨rfl, rfl, rfl, rfl, rfl⟩ rfl rfl rfl rfl rfl (by kernel_rfl) Try.func4 (by kernel_rfl)
    (of_decide_eq_true (by kernel_rfl)) (by unfold Func.isWrapper; first | (rw [if_pos (by decide +kernel)]; kernel_rfl) | (rw [if_neg (by decide +kernel)]; exact ⟨rfl, rfl⟩))
    (fun os started H enc _ => lifted os started H enc)
theorem proved : Rows.FnNumbersFilledSaid := over
#print axioms proved
end Go.Proofs.Ytcagdmeiigjkcaa.fnNumbersFilled
namespace Go.Proofs.Ytcagdmeiigjkcaa
/-- The row, under a short name, for the claim. -/
theorem fnNumbersFilled_holds : Rows.FnNumbersFilledSaid := fnNumbersFilled.proved
end Go.Proofs.Ytcagdmeiigjkcaa
