/- FnRedHatOrder: for every three texts (within the law's own bounds, else the law answers true) Red Hat versions, as the package compares them, are in one order. -/
import Derived.Test.YtciojhhncfnagaaDoorZ10
import Derived.Test.YtciojhhncfnagaaDoorComS
import Derived.Test.YtciojhhncfnagaaDoorComU
import Derived.Test.YtciojhhncfnagaaDoorComP
import Derived.Test.YtciojhhncfnagaaDoorComQ
import Derived.Test.YtciojhhncfnagaaDoorRows
import Derived.Test.YtciojhhncfnagaaDoorOp
import Derived.Test.YtciojhhncfnagaaDoorCards
import Derived.Test.YtciojhhncfnagaaDoorTie
import Derived.Deep.DeepHandedRow
import Derived.Deep.DeepWitnessRowRef
import Derived.Deep.DeepLaidRun
import Derived.WalkKit
import Derived.ProofKit
import Derived.OpenShut
import Derived.ShutString
import Derived.ChangeOld
import Derived.Below
import Derived.SizedLaws
namespace Go.Proofs.YtciojhhncfnagaaDoor.Pure
open Go Go.RowKit Go.Proofs.YtciojhhncfnagaaDoor.Z Go.Proofs.YtciojhhncfnagaaDoor.Evs Go.Proofs.YtciojhhncfnagaaDoor.By Go.Proofs.YtciojhhncfnagaaDoor.Com Go.Proofs.YtciojhhncfnagaaDoor.Lx Go.Proofs.YtciojhhncfnagaaDoor.Rh Go.Proofs.YtciojhhncfnagaaDoor.Rk Go.Proofs.YtciojhhncfnagaaDoorW.PrintWords Go.Proofs.YtciojhhncfnagaaDoorW.PrintLast
set_option linter.unusedVariables false
set_option linter.unusedSimpArgs false

theorem known (x : ByteArray) : spec_RedHatKnown.f x = some true := by
  unfold spec_RedHatKnown.f
  rw [decide_eq_true (by omega)]

/- ∀ a0 a1 a2, .. → ∃ k, laws_FnRedHatOrder.f k a0 a1 a2 = some true -/
theorem FnRedHatOrder : laws_FnRedHatOrder.Pure := by
  intro a0 a1 a2 h0 h1 h2
  refine Ev.rounds ?_
  unfold laws_FnRedHatOrder.f
  have z0 : Ev (fun k => laws_FnRedHatOrder.j0 k a0 a1 a2 true) true := Ev.step (fun _ => by rw [laws_FnRedHatOrder.j0]) (ev_t (ev_now rfl))
  have z1 : Ev (fun k => laws_FnRedHatOrder.j1 k a0 a1 a2 true) true := Ev.step (fun _ => by rw [laws_FnRedHatOrder.j1]) (ev_t (ev_now rfl))
  refine ev_ite (fun _ => z0) (fun c0 => ev_ite (fun _ => z0) (fun c1 => ?_))
  cases c2 : decide ((a2.size : Int) > 2147483647) with
  | true => exact z0
  | false =>
    obtain ⟨r, hr, hq⟩ := short3 a0 a1 a2
    refine Ev.step (fun _ => by rw [laws_FnRedHatOrder.j0, known, known, known]) ?_
    refine ev_f (Ev.bind hr ?_)
    cases r with
    | false => exact ev_f z1
    | true =>
      obtain ⟨s0, s1, s2⟩ := hq rfl
      have l0 := bl_length a0
      have l1 := bl_length a1
      have l2 := bl_length a2
      have p0 := plain_ev (bl a0) [46, 95, 43, 45, 126, 94, 58] (by omega) (by simp)
      have p1 := plain_ev (bl a1) [46, 95, 43, 45, 126, 94, 58] (by omega) (by simp)
      have p2 := plain_ev (bl a2) [46, 95, 43, 45, 126, 94, 58] (by omega) (by simp)
      refine ev_t (Ev.bind p0 ?_)
      cases ((bl a0).all (plainC [46, 95, 43, 45, 126, 94, 58]) && !(bl a0).isEmpty) with
      | false => exact ev_f z1
      | true =>
        refine ev_t (Ev.bind p1 ?_)
        cases ((bl a1).all (plainC [46, 95, 43, 45, 126, 94, 58]) && !(bl a1).isEmpty) with
        | false => exact ev_f z1
        | true =>
          refine ev_t (Ev.bind p2 ?_)
          cases ((bl a2).all (plainC [46, 95, 43, 45, 126, 94, 58]) && !(bl a2).isEmpty) with
          | false => exact ev_f z1
          | true =>
            refine ev_t (ev_some (ev_t (ev_some (ev_t (ev_some ?_)))))
            have e1 := rhCompare_ev (bl a0) (bl a1) (by omega) (by omega)
            have e2 := rhCompare_ev (bl a1) (bl a2) (by omega) (by omega)
            have e3 := rhCompare_ev (bl a0) (bl a2) (by omega) (by omega)
            have e4 := rhCompare_ev (bl a0) (bl a0) (by omega) (by omega)
            rw [ofL_bl, ofL_bl] at e1 e2 e3
            rw [ofL_bl] at e4
            refine Ev.step (fun _ => by rw [Bool.not_true, laws_FnRedHatOrder.j1]) ?_
            refine ev_f (Ev.bind e1 (Ev.bind e2 (Ev.bind e3 (Ev.bind e4 ?_))))
            refine ev_t (ev_t (ev_t (ev_t (ev_pos (rhV_self _) ?_))))
            exact Ev.bind (chained_ev (rhV_chained _ _ _)) (ev_now rfl)
end Go.Proofs.YtciojhhncfnagaaDoor.Pure
namespace Go.Proofs.YtciojhhncfnagaaDoor.fnRedHatOrder
open Go.ChangeShapes Go.WideShapes Go.ChangeAt Go.RowKit Go.Proofs.YtciojhhncfnagaaDoor.Op Go.Proofs.YtciojhhncfnagaaDoor.Z Go.Proofs.YtciojhhncfnagaaDoorW.PrintWords
open Go.ChangeMaps (open_string shut_string)
set_option linter.unusedVariables false
set_option linter.unusedSimpArgs false
theorem own : ownKnob Tryd.prog.godebug = none := by kernel_rfl
theorem laidOut : laidOutB Tryd.prog = true := by kernel_rfl
noncomputable def low (os : Os) : Nat := (World.settled Tryd.prog os).heap.size
def put (h : Array Obj) (g : Nat) (cs : Array Value) : Array Obj := h.modify g fun
  | .cells _ t frozen => .cells cs t frozen
  | o => o
/-- A world for the witness: the listed variables hold what their initialisers lay. -/
noncomputable def laidWorld (os : Os) : World :=
  let w0 := World.holding Tryd.prog os ⟨#[(.cells #[.string ⟨#[118, 101, 114, 115, 105, 111, 110, 32, 105, 115, 32, 110, 111, 116, 32, 111, 102, 32, 116, 104, 101, 32, 115, 97, 109, 101, 32, 101, 99, 111, 115, 121, 115, 116, 101, 109]⟩] 98)], #[], []⟩
  { w0 with heap := put (w0.heap) 0 #[.iface 84 (.pointer (some ⟨low os + 0, 0, none⟩))] }
set_option maxRecDepth 100000 in
theorem laid_met (os : Os) : laidMet Tryd.prog Rows.fnRedHatOrderRow.laid ((laidWorld os).forCall (fun _ _ => 0) ⟨#[], #[.string ByteArray.empty, .string ByteArray.empty, .string ByteArray.empty], []⟩).memory :=
  laidMet_of_run3 8 (by kernel_rfl) (by kernel_rfl) (by kernel_rfl)
set_option maxRecDepth 100000 in
theorem reads (os : Os) {H : Type} (enc : TypeId × Value → H) : DataW.whole enc Tryd.prog ((laidWorld os).forCall (fun _ _ => 0) ⟨#[], #[.string ByteArray.empty, .string ByteArray.empty, .string ByteArray.empty], []⟩).memory Tryd.f4.params.toList Rows.fnRedHatOrderSpec.vars false #[.string ByteArray.empty, .string ByteArray.empty, .string ByteArray.empty].toList 8 = some ([.lit (.string []), .lit (.string []), .lit (.string [])], [], []) := by kernel_rfl
set_option maxRecDepth 100000 in
theorem lifted (os : Os) (started : os.Started) (H : Type) (enc : TypeId × Value → H) (F : Stop.Interp) :
    ReturnsInHanded {} Tryd.checked os 4 .any ((OpenSpec.ofChange Rows.fnRedHatOrderSpec).preRow enc Tryd.prog Tryd.f4 Rows.fnRedHatOrderRow.domain false Rows.fnRedHatOrderRow.laid) (((OpenSpec.ofChange Rows.fnRedHatOrderSpec).at F).post enc Tryd.prog Tryd.f4 false true false false) := by
  refine returnsInHanded_of_row (C := Tryd.checked) (s := OpenSpec.ofChange Rows.fnRedHatOrderSpec) own started (by kernel_rfl) Tryd.func4
    (witness_row_atRef (enc := enc) (C := Tryd.checked) false (laidWorld os) #[.string ByteArray.empty, .string ByteArray.empty, .string ByteArray.empty] rfl (by kernel_rfl) (by kernel_rfl) (by kernel_rfl)
      (OpenSpec.preRow_of_cond 8 (reads os enc) (by kernel_rfl) (fun k hk => by cases hk) (by kernel_rfl) (laid_met os))) ?_
  intro W base args ds gs before hval0 hW hcnd hk0 hsz0 hL hSh hho
  have hsz : (DataW.weightsEach Tryd.prog (Tryd.f4.params.toList ++ Rows.fnRedHatOrderSpec.plain.varTypes Tryd.prog) (ds ++ gs)).all (· ≤ reachBytes) = true := hsz0
  have hval : ∀ (j : Nat) t v, Tryd.f4.params[j]? = some t → args[j]? = some v → Value.okWide Tryd.prog W .any base t v := hval0
  have hW' := hW
  obtain ⟨p, q, hA0, hV, rfl, hfz, hnd⟩ := hW
  have hA : DataW.TrodAll enc Tryd.prog W 0 (fun _ => true) true Tryd.f4.params.toList args.toList ds p := hA0
  rw [Tryd.params4] at hA hval hsz
  obtain ⟨v0, vs0, d0, ds0, p0, q0, hargs, rfl, rfl, h0, r0⟩ := trodAll_cons hA
  obtain ⟨v1, vs1, d1, ds1, p1, q1, rfl, rfl, rfl, h1, r1⟩ := trodAll_cons r0
  obtain ⟨v2, vs2, d2, ds2, p2, q2, rfl, rfl, rfl, h2, r2⟩ := trodAll_cons r1
  obtain ⟨rfl, rfl, rfl⟩ := trodAll_nil r2
  obtain rfl : args = #[v0, v1, v2] := by cases args; simp_all
  obtain ⟨rfl, rfl⟩ := trodVars_none hV
  obtain ⟨a0, rfl, rfl, rfl, y0⟩ := open_string Tryd.underlying9 (hval 0 9 v0 rfl rfl) h0
  have w0 : a0.size ≤ 140737488351232 := by
    have z := sized_string hsz (j := 0) (t := 9) rfl rfl
    rw [Array.length_toList] at z
    exact z
  obtain ⟨a1, rfl, rfl, rfl, y1⟩ := open_string Tryd.underlying9 (hval 1 9 v1 rfl rfl) h1
  have w1 : a1.size ≤ 140737488351232 := by
    have z := sized_string hsz (j := 1) (t := 9) rfl rfl
    rw [Array.length_toList] at z
    exact z
  obtain ⟨a2, rfl, rfl, rfl, y2⟩ := open_string Tryd.underlying9 (hval 2 9 v2 rfl rfl) h2
  have w2 : a2.size ≤ 140737488351232 := by
    have z := sized_string hsz (j := 2) (t := 9) rfl rfl
    rw [Array.length_toList] at z
    exact z
  clear hA0 hval0 hsz0 hsz
  refine (laws_FnRedHatOrder.walk Pure.FnRedHatOrder a0 a1 a2 W w0 w1 w2 ).mono fun e W' ⟨he, bel⟩ => ?_
  subst he
  exact ⟨_, rfl, _, _, _, [], _, [], hW', trodAll_mk1 (shut_bool Tryd.underlying4 _), (trodAll_cons_mk (shut_string Tryd.underlying9 y0) (trodAll_cons_mk (shut_string Tryd.underlying9 y1) (trodAll_cons_mk (shut_string Tryd.underlying9 y2) trodAll_mk0))), rfl, bel.frame _, fun h => by cases h⟩
theorem said : Rows.FnRedHatOrderSaid :=
  OpenClaim.holds_of_cond 4 Tryd.f4 rfl rfl rfl rfl rfl rfl rfl ⟨rfl, rfl, rfl, rfl, rfl⟩ rfl rfl rfl rfl rfl (by kernel_rfl) Tryd.func4 (by kernel_rfl)
    (of_decide_eq_true (by kernel_rfl)) (by unfold Func.isWrapper; first | (rw [if_pos (by decide +kernel)]; kernel_rfl) | (rw [if_neg (by decide +kernel)]; exact ⟨rfl, rfl⟩))
    (fun os started H enc _ F => by rw [OpenClaim.pre_eq_preRow]; exact lifted os started H enc F)
theorem plain (f : FuncId) (fn : Func) (hf : Tryd.pinned.checked.prog.funcNamed "pub-seniority/laws.FnRedHatOrder" = some f) (hfn : Tryd.pinned.checked.prog.funcs[f]? = some fn) :
    true = Tryd.pinned.checked.prog.looks [] ∧ ∀ (j : Nat) t, fn.params[j]? = some t → Tryd.pinned.checked.prog.wantsStandIn t = false := by
  obtain rfl : f = 4 := Option.some.inj ((show Tryd.prog.funcNamed "pub-seniority/laws.FnRedHatOrder" = some 4 by kernel_rfl).symm.trans hf) |>.symm
  obtain rfl : fn = Tryd.f4 := (Option.some.inj (Tryd.func4.symm.trans hfn)).symm
  refine ⟨by kernel_rfl, fun j t ht => ?_⟩
  rw [Tryd.params4] at ht
  have h2 : ([9, 9, 9] : List TypeId).all (fun t => !Tryd.prog.wantsStandIn t) = true := by kernel_rfl
  have h3 := List.all_eq_true.1 h2 t (by have := Array.mem_of_getElem? ht; simpa using this)
  exact (show Tryd.prog.wantsStandIn t = false from by simpa using h3)
theorem proved : Rows.FnRedHatOrderCardSaid :=
  Claim7.holds_tied_plain_at .later [] _ _ _ _ said (fun _ h => by cases h) (by kernel_rfl) (fun _ h => by cases h) fnRedHatOrder_row_tie rfl ⟨rfl, rfl⟩ (by kernel_rfl) rfl plain (by kernel_rfl)
#print axioms proved
end Go.Proofs.YtciojhhncfnagaaDoor.fnRedHatOrder
namespace Go.Proofs.YtciojhhncfnagaaDoor
/-- The card, under a short name, for the claim. -/
theorem fnRedHatOrder_holds : Rows.FnRedHatOrderCardSaid := fnRedHatOrder.proved
end Go.Proofs.YtciojhhncfnagaaDoor
