/- FnRedHatZeros: for every two texts (within the law's own bounds, else the law answers true) zeros ahead of numbers change no part of a Red Hat version, as the package compares them. -/
import Derived.Test.YtciojhhncfnagaaDoorZ14
import Derived.Test.YtciojhhncfnagaaDoorComS
import Derived.Test.YtciojhhncfnagaaDoorComP
import Derived.Test.YtciojhhncfnagaaDoorComZ
import Derived.Test.YtciojhhncfnagaaDoorComQ
import Derived.Test.YtciojhhncfnagaaDoorRows
import Derived.Test.YtciojhhncfnagaaDoorOp
import Derived.Test.YtciojhhncfnagaaDoorCards
import Derived.Test.YtciojhhncfnagaaDoorTie
import Derived.Deep.DeepHandedRow
import Derived.Deep.DeepWitnessRowRef
import Derived.Deep.DeepLaidRun
import Derived.WalkKit
import Derived.ProofKit
import Derived.OpenShut
import Derived.ShutString
import Derived.ChangeOld
import Derived.Below
import Derived.SizedLaws
namespace Go.Proofs.YtciojhhncfnagaaDoor.Pure
open Go Go.RowKit Go.Proofs.YtciojhhncfnagaaDoor.Z Go.Proofs.YtciojhhncfnagaaDoor.Evs Go.Proofs.YtciojhhncfnagaaDoor.By Go.Proofs.YtciojhhncfnagaaDoor.Com Go.Proofs.YtciojhhncfnagaaDoor.Lx Go.Proofs.YtciojhhncfnagaaDoor.Rh Go.Proofs.YtciojhhncfnagaaDoor.Rk Go.Proofs.YtciojhhncfnagaaDoorW.PrintWords Go.Proofs.YtciojhhncfnagaaDoorW.PrintLast
set_option linter.unusedVariables false
set_option linter.unusedSimpArgs false

theorem zer_same : ∀ (o : Bool) (l : List UInt8), zer0 o l = zer o l
  | _, [] => rfl
  | o, c :: l => by
    rw [zer0, zer, zer_same true l, zer_same (dg c) l]

/- ∀ a0 a1, .. → ∃ k, laws_FnRedHatZeros.f k a0 a1 = some true -/
theorem FnRedHatZeros : laws_FnRedHatZeros.Pure := by
  intro a0 a1 h0 h1
  refine Ev.rounds ?_
  unfold laws_FnRedHatZeros.f
  have z0 : Ev (fun k => laws_FnRedHatZeros.j0 k a0 a1 true) true := Ev.step (fun _ => by rw [laws_FnRedHatZeros.j0]) (ev_t (ev_now rfl))
  have z1 : Ev (fun k => laws_FnRedHatZeros.j1 k a0 a1 true) true := Ev.step (fun _ => by rw [laws_FnRedHatZeros.j1]) (ev_t (ev_now rfl))
  refine ev_ite (fun _ => z0) (fun c0 => ?_)
  cases c1 : decide ((a1.size : Int) > 2147483647) with
  | true => exact z0
  | false =>
    obtain ⟨r, hr, hq⟩ := short2 a0 a1
    refine Ev.step (fun _ => by rw [laws_FnRedHatZeros.j0]) ?_
    refine ev_f (Ev.bind hr ?_)
    cases r with
    | false => exact ev_f z1
    | true =>
      obtain ⟨s0, s1⟩ := hq rfl
      have l0 := bl_length a0
      have l1 := bl_length a1
      have p0 := plain_ev (bl a0) [46, 95, 43, 126, 94] (by omega) (by simp)
      have p1 := plain_ev (bl a1) [46, 95, 43, 126, 94] (by omega) (by simp)
      refine ev_t (Ev.bind p0 ?_)
      cases ((bl a0).all (plainC [46, 95, 43, 126, 94]) && !(bl a0).isEmpty) with
      | false => exact ev_f z1
      | true =>
        refine ev_t (Ev.bind p1 ?_)
        cases ((bl a1).all (plainC [46, 95, 43, 126, 94]) && !(bl a1).isEmpty) with
        | false => exact z1
        | true =>
          have ez := zeroed_ev (bl a0) (by omega)
          have hz := zer0_len false (bl a0)
          rw [ofL_bl] at ez
          have k0 := rh_parts (bl a0) (zer0 false (bl a0)) (by omega) (by omega)
          have k1 := rh_parts (zer0 false (bl a0)) (bl a1) (by omega) (by omega)
          have k2 := rh_parts (bl a0) (bl a1) (by omega) (by omega)
          rw [ofL_bl] at k0 k1 k2
          rw [ofL_bl] at k2
          have q0 : rhC (bl a0) (zer0 false (bl a0)) = 0 := by rw [rhC, zer_same, rhKT_zer, lex_self]
          have q1 : rhC (zer0 false (bl a0)) (bl a1) = rhC (bl a0) (bl a1) := by rw [rhC, zer_same, rhKT_zer, rhC]
          refine Ev.step (fun _ => by rw [Bool.not_true, laws_FnRedHatZeros.j1]) ?_
          refine ev_f (Ev.bind awake_ev (ev_t (Ev.bind ez ?_)))
          rw [k0, k1, k2, q0, q1]
          exact ev_some (ev_pos rfl (ev_some (ev_some (ev_now (show (rhC (bl a0) (bl a1) == rhC (bl a0) (bl a1)) = true from beq_self_eq_true _)))))
end Go.Proofs.YtciojhhncfnagaaDoor.Pure
namespace Go.Proofs.YtciojhhncfnagaaDoor.fnRedHatZeros
open Go.ChangeShapes Go.WideShapes Go.ChangeAt Go.RowKit Go.Proofs.YtciojhhncfnagaaDoor.Op Go.Proofs.YtciojhhncfnagaaDoor.Z Go.Proofs.YtciojhhncfnagaaDoorW.PrintWords
open Go.ChangeMaps (open_string shut_string)
set_option linter.unusedVariables false
set_option linter.unusedSimpArgs false
theorem own : ownKnob Tryd.prog.godebug = none := by kernel_rfl
theorem laidOut : laidOutB Tryd.prog = true := by kernel_rfl
noncomputable def low (os : Os) : Nat := (World.settled Tryd.prog os).heap.size
def put (h : Array Obj) (g : Nat) (cs : Array Value) : Array Obj := h.modify g fun
  | .cells _ t frozen => .cells cs t frozen
  | o => o
/-- A world for the witness: the listed variables hold what their initialisers lay. -/
noncomputable def laidWorld (os : Os) : World :=
  let w0 := World.holding Tryd.prog os ⟨#[(.cells #[.string ⟨#[118, 101, 114, 115, 105, 111, 110, 32, 105, 115, 32, 110, 111, 116, 32, 111, 102, 32, 116, 104, 101, 32, 115, 97, 109, 101, 32, 101, 99, 111, 115, 121, 115, 116, 101, 109]⟩] 98)], #[], []⟩
  { w0 with heap := put (w0.heap) 0 #[.iface 84 (.pointer (some ⟨low os + 0, 0, none⟩))] }
set_option maxRecDepth 100000 in
theorem laid_met (os : Os) : laidMet Tryd.prog Rows.fnRedHatZerosRow.laid ((laidWorld os).forCall (fun _ _ => 0) ⟨#[], #[.string ByteArray.empty, .string ByteArray.empty], []⟩).memory :=
  laidMet_of_run3 8 (by kernel_rfl) (by kernel_rfl) (by kernel_rfl)
set_option maxRecDepth 100000 in
theorem reads (os : Os) {H : Type} (enc : TypeId × Value → H) : DataW.whole enc Tryd.prog ((laidWorld os).forCall (fun _ _ => 0) ⟨#[], #[.string ByteArray.empty, .string ByteArray.empty], []⟩).memory Tryd.f6.params.toList Rows.fnRedHatZerosSpec.vars false #[.string ByteArray.empty, .string ByteArray.empty].toList 8 = some ([.lit (.string []), .lit (.string [])], [], []) := by kernel_rfl
set_option maxRecDepth 100000 in
theorem lifted (os : Os) (started : os.Started) (H : Type) (enc : TypeId × Value → H) (F : Stop.Interp) :
    ReturnsInHanded {} Tryd.checked os 6 .any ((OpenSpec.ofChange Rows.fnRedHatZerosSpec).preRow enc Tryd.prog Tryd.f6 Rows.fnRedHatZerosRow.domain false Rows.fnRedHatZerosRow.laid) (((OpenSpec.ofChange Rows.fnRedHatZerosSpec).at F).post enc Tryd.prog Tryd.f6 false true false false) := by
  refine returnsInHanded_of_row (C := Tryd.checked) (s := OpenSpec.ofChange Rows.fnRedHatZerosSpec) own started (by kernel_rfl) Tryd.func6
    (witness_row_atRef (enc := enc) (C := Tryd.checked) false (laidWorld os) #[.string ByteArray.empty, .string ByteArray.empty] rfl (by kernel_rfl) (by kernel_rfl) (by kernel_rfl)
      (OpenSpec.preRow_of_cond 8 (reads os enc) (by kernel_rfl) (fun k hk => by cases hk) (by kernel_rfl) (laid_met os))) ?_
  intro W base args ds gs before hval0 hW hcnd hk0 hsz0 hL hSh hho
  have hsz : (DataW.weightsEach Tryd.prog (Tryd.f6.params.toList ++ Rows.fnRedHatZerosSpec.plain.varTypes Tryd.prog) (ds ++ gs)).all (· ≤ reachBytes) = true := hsz0
  have hval : ∀ (j : Nat) t v, Tryd.f6.params[j]? = some t → args[j]? = some v → Value.okWide Tryd.prog W .any base t v := hval0
  have hW' := hW
  obtain ⟨p, q, hA0, hV, rfl, hfz, hnd⟩ := hW
  have hA : DataW.TrodAll enc Tryd.prog W 0 (fun _ => true) true Tryd.f6.params.toList args.toList ds p := hA0
  rw [Tryd.params6] at hA hval hsz
  obtain ⟨v0, vs0, d0, ds0, p0, q0, hargs, rfl, rfl, h0, r0⟩ := trodAll_cons hA
  obtain ⟨v1, vs1, d1, ds1, p1, q1, rfl, rfl, rfl, h1, r1⟩ := trodAll_cons r0
  obtain ⟨rfl, rfl, rfl⟩ := trodAll_nil r1
  obtain rfl : args = #[v0, v1] := by cases args; simp_all
  obtain ⟨rfl, rfl⟩ := trodVars_none hV
  obtain ⟨a0, rfl, rfl, rfl, y0⟩ := open_string Tryd.underlying9 (hval 0 9 v0 rfl rfl) h0
  have w0 : a0.size ≤ 140737488351232 := by
    have z := sized_string hsz (j := 0) (t := 9) rfl rfl
    rw [Array.length_toList] at z
    exact z
  obtain ⟨a1, rfl, rfl, rfl, y1⟩ := open_string Tryd.underlying9 (hval 1 9 v1 rfl rfl) h1
  have w1 : a1.size ≤ 140737488351232 := by
    have z := sized_string hsz (j := 1) (t := 9) rfl rfl
    rw [Array.length_toList] at z
    exact z
  clear hA0 hval0 hsz0 hsz
  refine (laws_FnRedHatZeros.walk Pure.FnRedHatZeros a0 a1 W w0 w1 ).mono fun e W' ⟨he, bel⟩ => ?_
  subst he
  exact ⟨_, rfl, _, _, _, [], _, [], hW', trodAll_mk1 (shut_bool Tryd.underlying4 _), (trodAll_cons_mk (shut_string Tryd.underlying9 y0) (trodAll_cons_mk (shut_string Tryd.underlying9 y1) trodAll_mk0)), rfl, bel.frame _, fun h => by cases h⟩
theorem said : Rows.FnRedHatZerosSaid :=
  OpenClaim.holds_of_cond 6 Tryd.f6 rfl rfl rfl rfl rfl rfl rfl ⟨rfl, rfl, rfl, rfl, rfl⟩ rfl rfl rfl rfl rfl (by kernel_rfl) Tryd.func6 (by kernel_rfl)
    (of_decide_eq_true (by kernel_rfl)) (by unfold Func.isWrapper; first | (rw [if_pos (by decide +kernel)]; kernel_rfl) | (rw [if_neg (by decide +kernel)]; exact ⟨rfl, rfl⟩))
    (fun os started H enc _ F => by rw [OpenClaim.pre_eq_preRow]; exact lifted os started H enc F)
theorem plain (f : FuncId) (fn : Func) (hf : Tryd.pinned.checked.prog.funcNamed "pub-seniority/laws.FnRedHatZeros" = some f) (hfn : Tryd.pinned.checked.prog.funcs[f]? = some fn) :
    true = Tryd.pinned.checked.prog.looks [] ∧ ∀ (j : Nat) t, fn.params[j]? = some t → Tryd.pinned.checked.prog.wantsStandIn t = false := by
  obtain rfl : f = 6 := Option.some.inj ((show Tryd.prog.funcNamed "pub-seniority/laws.FnRedHatZeros" = some 6 by kernel_rfl).symm.trans hf) |>.symm
  obtain rfl : fn = Tryd.f6 := (Option.some.inj (Tryd.func6.symm.trans hfn)).symm
  refine ⟨by kernel_rfl, fun j t ht => ?_⟩
  rw [Tryd.params6] at ht
  have h2 : ([9, 9] : List TypeId).all (fun t => !Tryd.prog.wantsStandIn t) = true := by kernel_rfl
  have h3 := List.all_eq_true.1 h2 t (by have := Array.mem_of_getElem? ht; simpa using this)
  exact (show Tryd.prog.wantsStandIn t = false from by simpa using h3)
theorem proved : Rows.FnRedHatZerosCardSaid :=
  Claim7.holds_tied_plain_at .later [] _ _ _ _ said (fun _ h => by cases h) (by kernel_rfl) (fun _ h => by cases h) fnRedHatZeros_row_tie rfl ⟨rfl, rfl⟩ (by kernel_rfl) rfl plain (by kernel_rfl)
#print axioms proved
end Go.Proofs.YtciojhhncfnagaaDoor.fnRedHatZeros
namespace Go.Proofs.YtciojhhncfnagaaDoor
/-- The card, under a short name, for the claim. -/
theorem fnRedHatZeros_holds : Rows.FnRedHatZerosCardSaid := fnRedHatZeros.proved
end Go.Proofs.YtciojhhncfnagaaDoor
