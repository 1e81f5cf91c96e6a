/- FnRedHatEpochs: for every four texts (within the law's own bounds, else the law answers true) epochs come first as the package compares Red Hat versions: without one it is 0, a greater one is a greater version, an equal one changes nothing. -/
import Derived.Test.YtciojhhncfnagaaDoorZ8
import Derived.Test.YtciojhhncfnagaaDoorComS
import Derived.Test.YtciojhhncfnagaaDoorComP
import Derived.Test.YtciojhhncfnagaaDoorComG
import Derived.Test.YtciojhhncfnagaaDoorComH
import Derived.Test.YtciojhhncfnagaaDoorComY
import Derived.Test.YtciojhhncfnagaaDoorRows
import Derived.Test.YtciojhhncfnagaaDoorOp
import Derived.Test.YtciojhhncfnagaaDoorCards
import Derived.Test.YtciojhhncfnagaaDoorTie
import Derived.Deep.DeepHandedRow
import Derived.Deep.DeepWitnessRowRef
import Derived.Deep.DeepLaidRun
import Derived.WalkKit
import Derived.ProofKit
import Derived.OpenShut
import Derived.ShutString
import Derived.ChangeOld
import Derived.Below
import Derived.SizedLaws
namespace Go.Proofs.YtciojhhncfnagaaDoor.Pure
open Go Go.RowKit Go.Proofs.YtciojhhncfnagaaDoor.Z Go.Proofs.YtciojhhncfnagaaDoor.Evs Go.Proofs.YtciojhhncfnagaaDoor.By Go.Proofs.YtciojhhncfnagaaDoor.Com Go.Proofs.YtciojhhncfnagaaDoor.Lx Go.Proofs.YtciojhhncfnagaaDoor.Bv Go.Proofs.YtciojhhncfnagaaDoor.Rh Go.Proofs.YtciojhhncfnagaaDoor.Rk Go.Proofs.YtciojhhncfnagaaDoorW.PrintWords Go.Proofs.YtciojhhncfnagaaDoorW.PrintLast
set_option linter.unusedVariables false
set_option linter.unusedSimpArgs false

theorem dw_nil {p : UInt8 → Bool} {l : List UInt8} (h : ∀ x ∈ l, p x = true) : l.dropWhile p = [] := by
  have := List.dropWhile_append_of_pos (l₂ := []) h
  simpa using this
theorem cut_no (l : List UInt8) (h : l.all (· != 58) = true) : cutB 58 l = (l, [], false) := by
  have hd : l.dropWhile (· != 58) = [] := dw_nil (fun x hx => List.all_eq_true.1 h x hx)
  rw [cutB, hd]
theorem cut_at (e a : List UInt8) (h : e.all (· != 58) = true) : cutB 58 (e ++ 58 :: a) = (e, a, true) := by
  have hall : ∀ x ∈ e, (x != 58) = true := fun x hx => List.all_eq_true.1 h x hx
  have hd : (e ++ 58 :: a).dropWhile (· != 58) = 58 :: a := by
    rw [List.dropWhile_append_of_pos hall, List.dropWhile_cons, if_neg (by decide)]
  have ht : (e ++ 58 :: a).takeWhile (· != 58) = e := by
    rw [List.takeWhile_append_of_pos hall, List.takeWhile_cons, if_neg (by decide), List.append_nil]
  rw [cutB, hd, ht]
theorem dig58 (e : List UInt8) (h : e.all dg = true) : e.all (· != 58) = true := by
  rw [List.all_eq_true] at *
  intro x hx
  have := h x hx
  rw [bne_iff_ne]
  intro e
  rw [e] at this
  exact absurd this (by decide)
theorem plain58 (a : List UInt8) (h : (a.all (plainC [46, 95, 43, 126, 94, 45]) && !a.isEmpty) = true) : a.all (· != 58) = true := by
  rw [Bool.and_eq_true] at h
  obtain ⟨h1, _⟩ := h
  rw [List.all_eq_true]
  intro x hx
  have := List.all_eq_true.1 h1 x hx
  rw [bne_iff_ne]
  intro e
  rw [e] at this
  exact absurd this (by decide)
theorem parse_no (a : List UInt8) (h : a.all (· != 58) = true) : rhParse a = rhVR [] a := by
  rw [rhParse, cut_no a h]
  rfl
theorem parse_at (e a : List UInt8) (he : e.all dg = true) : rhParse (e ++ 58 :: a) = rhVR e a := by
  rw [rhParse, cut_at e a (dig58 e he)]
  simp only [he, Bool.and_self, if_true]
/-- How what stands behind the epochs compares. -/
def restC (a b : List UInt8) : Int := comb (rhC (a.takeWhile (· != 45)) (b.takeWhile (· != 45))) (rhC (a.dropWhile (· != 45)) (b.dropWhile (· != 45)))
theorem rhK_digits (c : UInt8) (r : List UInt8) (h : (c :: r).all dg = true) : rhK (c :: r) = rhItem true (c :: r) ++ [1] := by
  have hc : dg c = true := by simp only [List.all_cons, Bool.and_eq_true] at h; exact h.1
  have ht : rhTrim c = false := by simp [rhTrim, hc]
  have n1 : ¬ c = 126 := fun e => by rw [e] at hc; exact absurd hc (by decide)
  have n2 : ¬ c = 94 := fun e => by rw [e] at hc; exact absurd hc (by decide)
  have hs : rhSkip (c :: r) = c :: r := by rw [rhSkip, List.dropWhile_cons, if_neg (by simp [ht])]
  have hall : ∀ x ∈ (c :: r), dg x = true := fun x hx => List.all_eq_true.1 h x hx
  have e1 : (c :: r).takeWhile dg = c :: r := by
    have := List.takeWhile_append_of_pos (l₂ := []) hall
    simpa using this
  have e2 : (c :: r).dropWhile dg = [] := dw_nil hall
  rw [rhK_step, hs]
  simp only [if_neg n1, if_neg n2, hc, cls_true, e1, e2]
  rfl
theorem rhC_digits (e f : List UInt8) (he : e.all dg = true) (hf : f.all dg = true) (ne : e ≠ []) (nf : f ≠ []) : rhC e f = cmpZ (decV e) (decV f) := by
  cases e with
  | nil => exact absurd rfl ne
  | cons c r => cases f with
    | nil => exact absurd rfl nf
    | cons d s =>
      rw [rhC, rhKT, rhKT, if_neg (by simp), if_neg (by simp), lex_cons, rhK_digits c r he, rhK_digits d s hf, lex_items, lex_self]
      have nz : ∀ z : Int, (if z ≠ 0 then z else 0) = z := fun z => by by_cases h : z = 0 <;> simp [h]
      rw [nz, ← dec_cmp _ _ he hf]
      have key : rhRuns true (c :: r) (d :: s) = (if (strip (c :: r)).length = (strip (d :: s)).length then Lib.compareBytes (strip (c :: r)) (strip (d :: s)) else cmpZ ((strip (c :: r)).length : Int) ((strip (d :: s)).length : Int)) := by
        show (if (strip (d :: s)).length < (strip (c :: r)).length then (1 : Int) else if (strip (c :: r)).length < (strip (d :: s)).length then -1 else Lib.compareBytes (strip (c :: r)) (strip (d :: s))) = _
        by_cases h1 : (strip (d :: s)).length < (strip (c :: r)).length
        · rw [if_pos h1, if_neg (by omega), cmpZ, if_neg (by omega), if_pos (by omega)]
        · rw [if_neg h1]
          by_cases h2 : (strip (c :: r)).length < (strip (d :: s)).length
          · rw [if_pos h2, if_neg (by omega), cmpZ, if_pos (by omega)]
          · rw [if_neg h2, if_pos (by omega)]
      exact key
theorem v_no (a b : List UInt8) (ha : a.all (· != 58) = true) (hb : b.all (· != 58) = true) : rhV a b = restC a b := by
  rw [rhV, parse_no a ha, parse_no b hb]
  show comb (rhC [48] [48]) _ = _
  rw [comb_zero (by rw [rhC, lex_self])]
  rfl
theorem v_at (e f a b : List UInt8) (he : e.all dg = true) (hf : f.all dg = true) (ne : e ≠ []) (nf : f ≠ []) : rhV (e ++ 58 :: a) (f ++ 58 :: b) = comb (cmpZ (decV e) (decV f)) (restC a b) := by
  rw [rhV, parse_at e a he, parse_at f b hf, ← rhC_digits e f he hf ne nf]
  have e1 : (rhVR e a).1 = e := if_neg ne
  have e2 : (rhVR f b).1 = f := if_neg nf
  rw [e1, e2]
  rfl
theorem v_zero (a b : List UInt8) (hb : b.all (· != 58) = true) : rhV (48 :: 58 :: a) b = restC a b := by
  have h := parse_at [48] a (by decide)
  have h' : rhParse (48 :: 58 :: a) = rhVR [48] a := h
  rw [rhV, h', parse_no b hb]
  show comb (rhC [48] [48]) _ = _
  rw [comb_zero (by rw [rhC, lex_self])]
  rfl

/- ∀ a0 a1 a2 a3, .. → ∃ k, laws_FnRedHatEpochs.f k a0 a1 a2 a3 = some true -/
theorem FnRedHatEpochs : laws_FnRedHatEpochs.Pure := by
  intro a0 a1 a2 a3 h0 h1 h2 h3
  refine Ev.rounds ?_
  unfold laws_FnRedHatEpochs.f
  have z0 : Ev (fun k => laws_FnRedHatEpochs.j0 k a0 a1 a2 a3 true) true := Ev.step (fun _ => by rw [laws_FnRedHatEpochs.j0]) (ev_t (ev_now rfl))
  have z1 : Ev (fun k => laws_FnRedHatEpochs.j1 k a0 a1 a2 a3 true) true := Ev.step (fun _ => by rw [laws_FnRedHatEpochs.j1]) (ev_t (ev_now rfl))
  refine ev_ite (fun _ => z0) (fun c0 => ev_ite (fun _ => z0) (fun c1 => ev_ite (fun _ => z0) (fun c2 => ?_)))
  cases c3 : decide ((a3.size : Int) > 2147483647) with
  | true => exact z0
  | false =>
    obtain ⟨r, hr, hq⟩ := short4 a0 a1 a2 a3
    refine Ev.step (fun _ => by rw [laws_FnRedHatEpochs.j0]) ?_
    refine ev_f (Ev.bind hr ?_)
    cases r with
    | false => exact ev_f z1
    | true =>
      obtain ⟨s0, s1, s2, s3⟩ := hq rfl
      have l0 := bl_length a0
      have l1 := bl_length a1
      have l2 := bl_length a2
      have l3 := bl_length a3
      have p0 := plain_ev (bl a0) [46, 95, 43, 126, 94, 45] (by omega) (by simp)
      have p1 := plain_ev (bl a1) [46, 95, 43, 126, 94, 45] (by omega) (by simp)
      have d2 := lawDigits_ev (bl a2) (by omega)
      have d3 := lawDigits_ev (bl a3) (by omega)
      rw [ofL_bl] at d2 d3
      refine ev_t (Ev.bind p0 ?_)
      cases g0 : ((bl a0).all (plainC [46, 95, 43, 126, 94, 45]) && !(bl a0).isEmpty) with
      | false => exact ev_f z1
      | true =>
        refine ev_t (Ev.bind p1 ?_)
        cases g1 : ((bl a1).all (plainC [46, 95, 43, 126, 94, 45]) && !(bl a1).isEmpty) with
        | false => exact ev_f z1
        | true =>
          refine ev_t (Ev.bind d2 ?_)
          cases g2 : ((bl a2).all dg && !(bl a2).isEmpty) with
          | false => exact ev_f z1
          | true =>
            refine ev_t (Ev.bind d3 ?_)
            cases g3 : ((bl a3).all dg && !(bl a3).isEmpty) with
            | false => exact z1
            | true =>
              rw [Bool.and_eq_true] at g2 g3
              obtain ⟨e2, e2'⟩ := g2
              obtain ⟨e3, e3'⟩ := g3
              have n2 : bl a2 ≠ [] := fun e => by rw [e] at e2'; cases e2'
              have n3 : bl a3 ≠ [] := fun e => by rw [e] at e3'; cases e3'
              have q0 := plain58 _ g0
              have q1 := plain58 _ g1
              have hn2 := number_ev (bl a2) (by omega)
              have hn3 := number_ev (bl a3) (by omega)
              rw [numS_digits _ e2 n2, ofL_bl] at hn2
              rw [numS_digits _ e3 n3, ofL_bl] at hn3
              have m2 := magB_len _ e2
              have m3 := magB_len _ e3
              have hcmp := cmpOne_ev false false (magB (bl a2)) (magB (bl a3)) (by omega) (by omega)
              rw [zv_mag _ e2, zv_mag _ e3] at hcmp
              have r1 := rhCompare_ev (bl a0) (bl a1) (by omega) (by omega)
              rw [ofL_bl, ofL_bl, v_no _ _ q0 q1] at r1
              have r2 := rhCompare_ev (bl a2 ++ 58 :: bl a0) (bl a3 ++ 58 :: bl a1) (by simp only [List.length_append, List.length_cons]; omega) (by simp only [List.length_append, List.length_cons]; omega)
              rw [v_at _ _ _ _ e2 e3 n2 n3] at r2
              have x2 : ofL (bl a2 ++ 58 :: bl a0) = (a2 ++ (⟨#[58]⟩ : ByteArray)) ++ a0 := by
                have : bl a2 ++ 58 :: bl a0 = (bl a2 ++ [58]) ++ bl a0 := by simp
                rw [this, ← ofL_append, ← ofL_append]
                rfl
              have x3 : ofL (bl a3 ++ 58 :: bl a1) = (a3 ++ (⟨#[58]⟩ : ByteArray)) ++ a1 := by
                have : bl a3 ++ 58 :: bl a1 = (bl a3 ++ [58]) ++ bl a1 := by simp
                rw [this, ← ofL_append, ← ofL_append]
                rfl
              rw [x2, x3] at r2
              have r3 := rhCompare_ev (48 :: 58 :: bl a0) (bl a1) (by simp only [List.length_cons]; omega) (by omega)
              rw [v_zero _ _ q1, ofL_bl] at r3
              have x4 : ofL (48 :: 58 :: bl a0) = (⟨#[48, 58]⟩ : ByteArray) ++ a0 := by
                have : (48 :: 58 :: bl a0 : List UInt8) = [48, 58] ++ bl a0 := rfl
                rw [this, ← ofL_append]
                rfl
              rw [x4] at r3
              have z2 : (a2 ++ (⟨#[58]⟩ : ByteArray)).size = a2.size + 1 := by simp; rfl
              have z3 : (a3 ++ (⟨#[58]⟩ : ByteArray)).size = a3.size + 1 := by simp; rfl
              refine Ev.step (fun _ => by rw [Bool.not_true, laws_FnRedHatEpochs.j1]) ?_
              refine ev_f (Ev.bind hn2 (Ev.bind hn3 (Ev.bind hcmp (Ev.bind r1 ?_))))
              obtain ⟨u, hu⟩ : ∃ u, u = cmpZ (decV (bl a2)) (decV (bl a3)) := ⟨_, rfl⟩
              obtain ⟨v, hv⟩ : ∃ v, v = restC (bl a0) (bl a1) := ⟨_, rfl⟩
              rw [← hu, ← hv] at r2
              rw [← hv] at r3
              rw [← hu, ← hv]
              refine ev_ite (fun hz => ?_) (fun hz => ?_)
              · rw [comb_zero hz] at r2
                refine ev_pos (by omega) (ev_pos (by omega) (ev_pos (by omega) (ev_pos (by omega) (Ev.bind r2 (ev_pos (by omega) (Ev.bind r3 ?_))))))
                refine ev_t (ev_t (ev_t (ev_pos rfl (ev_now ?_))))
                exact (show (v == v) = true from beq_self_eq_true _)
              · rw [comb_left hz] at r2
                refine ev_pos (by omega) (ev_pos (by omega) (ev_pos (by omega) (ev_pos (by omega) (Ev.bind r2 (ev_pos (by omega) (Ev.bind r3 ?_))))))
                refine ev_t (ev_t (ev_t (ev_pos rfl (ev_now ?_))))
                exact (show (v == v) = true from beq_self_eq_true _)
end Go.Proofs.YtciojhhncfnagaaDoor.Pure
namespace Go.Proofs.YtciojhhncfnagaaDoor.fnRedHatEpochs
open Go.ChangeShapes Go.WideShapes Go.ChangeAt Go.RowKit Go.Proofs.YtciojhhncfnagaaDoor.Op Go.Proofs.YtciojhhncfnagaaDoor.Z Go.Proofs.YtciojhhncfnagaaDoorW.PrintWords
open Go.ChangeMaps (open_string shut_string)
set_option linter.unusedVariables false
set_option linter.unusedSimpArgs false
theorem own : ownKnob Tryd.prog.godebug = none := by kernel_rfl
theorem laidOut : laidOutB Tryd.prog = true := by kernel_rfl
noncomputable def low (os : Os) : Nat := (World.settled Tryd.prog os).heap.size
def put (h : Array Obj) (g : Nat) (cs : Array Value) : Array Obj := h.modify g fun
  | .cells _ t frozen => .cells cs t frozen
  | o => o
/-- A world for the witness: the listed variables hold what their initialisers lay. -/
noncomputable def laidWorld (os : Os) : World :=
  let w0 := World.holding Tryd.prog os ⟨#[(.cells #[.string ⟨#[118, 101, 114, 115, 105, 111, 110, 32, 105, 115, 32, 110, 111, 116, 32, 111, 102, 32, 116, 104, 101, 32, 115, 97, 109, 101, 32, 101, 99, 111, 115, 121, 115, 116, 101, 109]⟩] 98)], #[], []⟩
  { w0 with heap := put (w0.heap) 0 #[.iface 84 (.pointer (some ⟨low os + 0, 0, none⟩))] }
set_option maxRecDepth 100000 in
theorem laid_met (os : Os) : laidMet Tryd.prog Rows.fnRedHatEpochsRow.laid ((laidWorld os).forCall (fun _ _ => 0) ⟨#[], #[.string ByteArray.empty, .string ByteArray.empty, .string ByteArray.empty, .string ByteArray.empty], []⟩).memory :=
  laidMet_of_run3 8 (by kernel_rfl) (by kernel_rfl) (by kernel_rfl)
set_option maxRecDepth 100000 in
theorem reads (os : Os) {H : Type} (enc : TypeId × Value → H) : DataW.whole enc Tryd.prog ((laidWorld os).forCall (fun _ _ => 0) ⟨#[], #[.string ByteArray.empty, .string ByteArray.empty, .string ByteArray.empty, .string ByteArray.empty], []⟩).memory Tryd.f3.params.toList Rows.fnRedHatEpochsSpec.vars false #[.string ByteArray.empty, .string ByteArray.empty, .string ByteArray.empty, .string ByteArray.empty].toList 8 = some ([.lit (.string []), .lit (.string []), .lit (.string []), .lit (.string [])], [], []) := by kernel_rfl
set_option maxRecDepth 100000 in
theorem lifted (os : Os) (started : os.Started) (H : Type) (enc : TypeId × Value → H) (F : Stop.Interp) :
    ReturnsInHanded {} Tryd.checked os 3 .any ((OpenSpec.ofChange Rows.fnRedHatEpochsSpec).preRow enc Tryd.prog Tryd.f3 Rows.fnRedHatEpochsRow.domain false Rows.fnRedHatEpochsRow.laid) (((OpenSpec.ofChange Rows.fnRedHatEpochsSpec).at F).post enc Tryd.prog Tryd.f3 false true false false) := by
  refine returnsInHanded_of_row (C := Tryd.checked) (s := OpenSpec.ofChange Rows.fnRedHatEpochsSpec) own started (by kernel_rfl) Tryd.func3
    (witness_row_atRef (enc := enc) (C := Tryd.checked) false (laidWorld os) #[.string ByteArray.empty, .string ByteArray.empty, .string ByteArray.empty, .string ByteArray.empty] rfl (by kernel_rfl) (by kernel_rfl) (by kernel_rfl)
      (OpenSpec.preRow_of_cond 8 (reads os enc) (by kernel_rfl) (fun k hk => by cases hk) (by kernel_rfl) (laid_met os))) ?_
  intro W base args ds gs before hval0 hW hcnd hk0 hsz0 hL hSh hho
  have hsz : (DataW.weightsEach Tryd.prog (Tryd.f3.params.toList ++ Rows.fnRedHatEpochsSpec.plain.varTypes Tryd.prog) (ds ++ gs)).all (· ≤ reachBytes) = true := hsz0
  have hval : ∀ (j : Nat) t v, Tryd.f3.params[j]? = some t → args[j]? = some v → Value.okWide Tryd.prog W .any base t v := hval0
  have hW' := hW
  obtain ⟨p, q, hA0, hV, rfl, hfz, hnd⟩ := hW
  have hA : DataW.TrodAll enc Tryd.prog W 0 (fun _ => true) true Tryd.f3.params.toList args.toList ds p := hA0
  rw [Tryd.params3] at hA hval hsz
  obtain ⟨v0, vs0, d0, ds0, p0, q0, hargs, rfl, rfl, h0, r0⟩ := trodAll_cons hA
  obtain ⟨v1, vs1, d1, ds1, p1, q1, rfl, rfl, rfl, h1, r1⟩ := trodAll_cons r0
  obtain ⟨v2, vs2, d2, ds2, p2, q2, rfl, rfl, rfl, h2, r2⟩ := trodAll_cons r1
  obtain ⟨v3, vs3, d3, ds3, p3, q3, rfl, rfl, rfl, h3, r3⟩ := trodAll_cons r2
  obtain ⟨rfl, rfl, rfl⟩ := trodAll_nil r3
  obtain rfl : args = #[v0, v1, v2, v3] := by cases args; simp_all
  obtain ⟨rfl, rfl⟩ := trodVars_none hV
  obtain ⟨a0, rfl, rfl, rfl, y0⟩ := open_string Tryd.underlying9 (hval 0 9 v0 rfl rfl) h0
  have w0 : a0.size ≤ 140737488351232 := by
    have z := sized_string hsz (j := 0) (t := 9) rfl rfl
    rw [Array.length_toList] at z
    exact z
  obtain ⟨a1, rfl, rfl, rfl, y1⟩ := open_string Tryd.underlying9 (hval 1 9 v1 rfl rfl) h1
  have w1 : a1.size ≤ 140737488351232 := by
    have z := sized_string hsz (j := 1) (t := 9) rfl rfl
    rw [Array.length_toList] at z
    exact z
  obtain ⟨a2, rfl, rfl, rfl, y2⟩ := open_string Tryd.underlying9 (hval 2 9 v2 rfl rfl) h2
  have w2 : a2.size ≤ 140737488351232 := by
    have z := sized_string hsz (j := 2) (t := 9) rfl rfl
    rw [Array.length_toList] at z
    exact z
  obtain ⟨a3, rfl, rfl, rfl, y3⟩ := open_string Tryd.underlying9 (hval 3 9 v3 rfl rfl) h3
  have w3 : a3.size ≤ 140737488351232 := by
    have z := sized_string hsz (j := 3) (t := 9) rfl rfl
    rw [Array.length_toList] at z
    exact z
  clear hA0 hval0 hsz0 hsz
  refine (laws_FnRedHatEpochs.walk Pure.FnRedHatEpochs a0 a1 a2 a3 W w0 w1 w2 w3 ).mono fun e W' ⟨he, bel⟩ => ?_
  subst he
  exact ⟨_, rfl, _, _, _, [], _, [], hW', trodAll_mk1 (shut_bool Tryd.underlying4 _), (trodAll_cons_mk (shut_string Tryd.underlying9 y0) (trodAll_cons_mk (shut_string Tryd.underlying9 y1) (trodAll_cons_mk (shut_string Tryd.underlying9 y2) (trodAll_cons_mk (shut_string Tryd.underlying9 y3) trodAll_mk0)))), rfl, bel.frame _, fun h => by cases h⟩
theorem said : Rows.FnRedHatEpochsSaid :=
  OpenClaim.holds_of_cond 3 Tryd.f3 rfl rfl rfl rfl rfl rfl rfl ⟨rfl, rfl, rfl, rfl, rfl⟩ rfl rfl rfl rfl rfl (by kernel_rfl) Tryd.func3 (by kernel_rfl)
    (of_decide_eq_true (by kernel_rfl)) (by unfold Func.isWrapper; first | (rw [if_pos (by decide +kernel)]; kernel_rfl) | (rw [if_neg (by decide +kernel)]; exact ⟨rfl, rfl⟩))
    (fun os started H enc _ F => by rw [OpenClaim.pre_eq_preRow]; exact lifted os started H enc F)
theorem plain (f : FuncId) (fn : Func) (hf : Tryd.pinned.checked.prog.funcNamed "pub-seniority/laws.FnRedHatEpochs" = some f) (hfn : Tryd.pinned.checked.prog.funcs[f]? = some fn) :
    true = Tryd.pinned.checked.prog.looks [] ∧ ∀ (j : Nat) t, fn.params[j]? = some t → Tryd.pinned.checked.prog.wantsStandIn t = false := by
  obtain rfl : f = 3 := Option.some.inj ((show Tryd.prog.funcNamed "pub-seniority/laws.FnRedHatEpochs" = some 3 by kernel_rfl).symm.trans hf) |>.symm
  obtain rfl : fn = Tryd.f3 := (Option.some.inj (Tryd.func3.symm.trans hfn)).symm
  refine ⟨by kernel_rfl, fun j t ht => ?_⟩
  rw [Tryd.params3] at ht
  have h2 : ([9, 9, 9, 9] : List TypeId).all (fun t => !Tryd.prog.wantsStandIn t) = true := by kernel_rfl
  have h3 := List.all_eq_true.1 h2 t (by have := Array.mem_of_getElem? ht; simpa using this)
  exact (show Tryd.prog.wantsStandIn t = false from by simpa using h3)
theorem proved : Rows.FnRedHatEpochsCardSaid :=
  Claim7.holds_tied_plain_at .later [] _ _ _ _ said (fun _ h => by cases h) (by kernel_rfl) (fun _ h => by cases h) fnRedHatEpochs_row_tie rfl ⟨rfl, rfl⟩ (by kernel_rfl) rfl plain (by kernel_rfl)
#print axioms proved
end Go.Proofs.YtciojhhncfnagaaDoor.fnRedHatEpochs
namespace Go.Proofs.YtciojhhncfnagaaDoor
/-- The card, under a short name, for the claim. -/
theorem fnRedHatEpochs_holds : Rows.FnRedHatEpochsCardSaid := fnRedHatEpochs.proved
end Go.Proofs.YtciojhhncfnagaaDoor
