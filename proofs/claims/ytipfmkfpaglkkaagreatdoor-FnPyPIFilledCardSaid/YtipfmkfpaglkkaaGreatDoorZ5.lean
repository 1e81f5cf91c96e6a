-- Written by a program of this session (myprint.py).
import Derived.Test.YtipfmkfpaglkkaaGreatDoorZ0
import Derived.Test.YtipfmkfpaglkkaaGreatDoorZ3
import Derived.Test.YtipfmkfpaglkkaaGreatDoorZ4
import Derived.Deep.MidRow
import Derived.Test.YtipfmkfpaglkkaaGreatDoorGe
namespace Go.Proofs.YtipfmkfpaglkkaaGreatDoor.Z
open Go.Proofs.YtipfmkfpaglkkaaGreatDoor.Gw
open Go.RowKit Go.Proofs.YtipfmkfpaglkkaaGreatDoorW.PrintWords Go.Proofs.YtipfmkfpaglkkaaGreatDoorW.PrintLast Go.Proofs.YtipfmkfpaglkkaaGreatDoorW.PrintMore
attribute [local go_sem high] Go.Proofs.YtipfmkfpaglkkaaGreatDoor.Ge.gtr_str
attribute [local go_sem] max2_int min2_int max_two min_two max_three min_three max_four min_four   -- for this text's walks alone
set_option linter.unusedVariables false
set_option linter.unusedSimpArgs false

-- PLUGGED laws_pypi: function 6 (a text of this session)
theorem pl_S17 {W : World} {b : Nat} {t : TypeId} {x0 x1 x2 x3 x4 x5 x6 x7 x8 x9 x10 x11 x12 x13 x14 x15 x16 : Value} (h : W.heap[b]? = some (.cells #[x0, x1, x2, x3, x4, x5, x6, x7, x8, x9, x10, x11, x12, x13, x14, x15, x16] t (0, 0))) : W.cell? ⟨b, 0, none⟩ = some x0 ∧ W.cell? ⟨b, 1, none⟩ = some x1 ∧ W.cell? ⟨b, 2, none⟩ = some x2 ∧ W.cell? ⟨b, 3, none⟩ = some x3 ∧ W.cell? ⟨b, 4, none⟩ = some x4 ∧ W.cell? ⟨b, 5, none⟩ = some x5 ∧ W.cell? ⟨b, 6, none⟩ = some x6 ∧ W.cell? ⟨b, 7, none⟩ = some x7 ∧ W.cell? ⟨b, 8, none⟩ = some x8 ∧ W.cell? ⟨b, 9, none⟩ = some x9 ∧ W.cell? ⟨b, 10, none⟩ = some x10 ∧ W.cell? ⟨b, 11, none⟩ = some x11 ∧ W.cell? ⟨b, 12, none⟩ = some x12 ∧ W.cell? ⟨b, 13, none⟩ = some x13 ∧ W.cell? ⟨b, 14, none⟩ = some x14 ∧ W.cell? ⟨b, 15, none⟩ = some x15 ∧ W.cell? ⟨b, 16, none⟩ = some x16 :=
 ⟨(blk_cell h 0).trans rfl, (blk_cell h 1).trans rfl, (blk_cell h 2).trans rfl, (blk_cell h 3).trans rfl, (blk_cell h 4).trans rfl, (blk_cell h 5).trans rfl, (blk_cell h 6).trans rfl, (blk_cell h 7).trans rfl, (blk_cell h 8).trans rfl, (blk_cell h 9).trans rfl, (blk_cell h 10).trans rfl, (blk_cell h 11).trans rfl, (blk_cell h 12).trans rfl, (blk_cell h 13).trans rfl, (blk_cell h 14).trans rfl, (blk_cell h 15).trans rfl, (blk_cell h 16).trans rfl⟩
theorem pl_keep {W W' : World} {g : Nat} {o : Obj} (hb : Below W.heap.size W W') (h : W.heap[g]? = some o) : W'.heap[g]? = some o := (hb.block g (Array.getElem?_eq_some_iff.1 h).1).trans h
theorem pl_next {w W w' : World} (h1 : Below w.heap.size w W) (h2 : Below W.heap.size W w') : Below w.heap.size w w' := h1.trans (h2.mono h1.size)
/-- A struct is loaded from any address. -/
theorem py_load {P : Program} {ops : Array Oper} {rest : List Oper} {op : Oper} {a : Act} {w : World} {Q : Exit → Act → World → Prop} (hgd : op.guard = none) (ty : TypeId) (x : Operand) (ho : op.op = .load ty x)
  (p : Addr) (hx : a.eval x = .pointer (some p)) (cs : List Value) (d : TypeDesc) (hc : ∀ j v, cs[j]? = some v → w.cell? (p.add j) = some v)
  (hu : P.underlying ty = some d) (hd : d.isRow = true) (hi : (P.info? ty).map (·.size) = some cs.length)
  (h : wpList P ops Q rest (a.put op.dst (.agg cs.toArray)) w) : wpList P ops Q (op :: rest) a w := by
 have hl : (loadCells p cs.length).run P w = .ok cs.toArray w := run_loadCells_list (P := P) w p cs hc
 have hrun : (loadVar ty p).run P w = .ok (.agg cs.toArray) w := by
  cases hq : P.info? ty with
  | none => simp [hq] at hi
  | some i =>
   have hs : i.size = cs.length := by simpa [hq] using hi
   have hagg : (isAgg ty).run P w = .ok true w := by
    unfold isAgg
    rw [Sem.run_bind, run_underlying hu w]
    cases d <;> simp_all
   simp [loadVar, Sem.run_bind, hagg, sizeOf, typeInfo, hq, hs, hl]
 refine wpList_plain hgd fun _ hK => ?_
 unfold Oper.wp execOp
 simp only [ho, hx, Instr.loadAt, Instr.sureAddr, Sem.run_bind, Sem.run_pure, Result.andThen_ok, hrun]
 exact hK _ _ h
theorem py_add_add (p : Addr) (i j : Nat) : (p.add i).add j = p.add (i + j) := by
 unfold Addr.add
 by_cases hi : i = 0
 ·subst hi; simp
 ·by_cases hj : j = 0
  ·subst hj; simp
  ·simp [hi, hj, Nat.add_assoc]
theorem py_rng {w : World} {b : Nat} {cs : List Value} {t : TypeId} (h : w.heap[b]? = some (.cells cs.toArray t (0, 0))) : w.rangeAt b 0 cs := fun j v hv => by
 rw [Nat.zero_add]
 refine (blk_cell h j).trans ?_
 simpa using hv
theorem py_there {w : World} {b n : Nat} {cs : List Value} {t : TypeId} (h : w.heap[b]? = some (.cells cs.toArray t (0, 0))) (hn : n = cs.length) : w.there b 0 n := fun j hj => by
 rw [Nat.zero_add]
 refine ⟨?_, blk_frozen h j⟩
 rw [blk_cell h j]
 simp
 omega
theorem py_put_all {b : Nat} {t : TypeId} : ∀ (vs ws pre : List Value) (W : World), W.heap[b]? = some (.cells (pre ++ ws).toArray t (0, 0)) → vs.length = ws.length → (W.setCells b pre.length vs).heap[b]? = some (.cells (pre ++ vs).toArray t (0, 0))
 | [], [], pre, W, h, _ => h
 | [], _ :: _, _, _, _, hl => by simp at hl
 | _ :: _, [], _, _, _, hl => by simp at hl
 | v :: vs, x :: ws, pre, W, h, hl => by
  have h2 := blk_put (cs' := ((pre ++ [v]) ++ ws).toArray) h pre.length v (by simp)
  have h3 := py_put_all vs ws (pre ++ [v]) _ h2 (by simpa using hl)
  rw [List.length_append, List.length_singleton] at h3
  rw [World.setCells]
  refine h3.trans ?_
  simp
theorem py_put_blk {b : Nat} {t : TypeId} {W : World} {vs ws : List Value} (h : W.heap[b]? = some (.cells ws.toArray t (0, 0))) (hl : vs.length = ws.length) : (W.setCells b 0 vs).heap[b]? = some (.cells vs.toArray t (0, 0)) :=
 py_put_all vs ws [] W h hl
theorem py_put_far {b g : Nat} (hg : g ≠ b) : ∀ (vs : List Value) (o : Nat) (W : World), (W.setCells b o vs).heap[g]? = W.heap[g]?
 | [], _, _ => rfl
 | v :: vs, o, W => by
  rw [World.setCells, py_put_far hg vs]
  exact Below.heap_setCell _ _ _ _ hg
theorem py_put_below {w : World} {b : Nat} (hb : w.heap.size ≤ b) : ∀ (vs : List Value) (o : Nat) (W : World), Below w.heap.size w W → Below w.heap.size w (W.setCells b o vs)
 | [], _, _, h => h
 | v :: vs, o, W, h => py_put_below hb vs (o + 1) _ (h.setCell (p := ⟨b, o, none⟩) hb v)
theorem py_info : (Tryz.prog.info? 29).map (·.size) = some 17 := by kernel_rfl
def plOk (k : Nat) (en : Bool) (em : ByteArray) (rl : List S23) (ph : Bool) (pl : ByteArray) (pn : Bool) (pm : ByteArray) (qh : Bool) (ql : ByteArray) (qn : Bool) (qm : ByteArray) (dh : Bool) (dl : ByteArray) (dn : Bool) (dm : ByteArray) (loc leg : List ByteArray) : Option Bool :=
 (spec_PyPIKnown.f k en em rl ph pl pn pm qh ql qn qm dh dl dn dm loc leg).bind fun a => if a = true then (laws_numbers.f k rl).bind fun b => if b = true then (laws_numbers.f k [⟨en, em⟩, ⟨pn, pm⟩, ⟨qn, qm⟩, ⟨dn, dm⟩]).bind fun c => if c = true then (laws_short.f k loc).bind fun d => if d = true then (laws_short.f k leg).bind fun e => if e = true then laws_short.f k [pl, ql, dl] else some false else some false else some false else some false else some false
def plOk' (k : Nat) (x : S29) : Option Bool := plOk k x.f0.f0 x.f0.f1 x.f1 x.f2.f0 x.f2.f1 x.f2.f2.f0 x.f2.f2.f1 x.f3.f0 x.f3.f1 x.f3.f2.f0 x.f3.f2.f1 x.f4.f0 x.f4.f1 x.f4.f2.f0 x.f4.f2.f1 x.f5 x.f6
theorem plOk.mono (k : Nat) (x : S29) : LeO (plOk' k x) (plOk' (k + 1) x) := by
 unfold plOk' plOk
 exact LeO.bind (spec_PyPIKnown.mono _ _ _ _ _ _ _ _ _ _ _ _ _ _ _ _ _ _) fun _ => LeO.ite (LeO.bind (laws_numbers.mono _ _) fun _ => LeO.ite (LeO.bind (laws_numbers.mono _ _) fun _ => LeO.ite (LeO.bind (laws_short.mono _ _) fun _ => LeO.ite (LeO.bind (laws_short.mono _ _) fun _ => LeO.ite (laws_short.mono _ _) (LeO.refl _)) (LeO.refl _)) (LeO.refl _)) (LeO.refl _)) (LeO.refl _)
def laws_pypi.go (k : Nat) : List S29 → Option Bool
 | [] => some true
 | x :: l => (plOk' k x).bind fun a => if a = true then laws_pypi.go k l else some false
def laws_pypi.f (k : Nat) (l0 : List S29) : Option Bool := laws_pypi.go k l0
theorem laws_pypi.mono : ∀ a0 k, LeO (laws_pypi.f k a0) (laws_pypi.f (k + 1) a0) := by
 intro a0 k
 unfold laws_pypi.f
 induction a0 with
 | nil => exact LeO.refl _
 | cons x l ih => exact LeO.bind (plOk.mono k x) fun _ => LeO.ite ih (LeO.refl _)
theorem pl_drawn {W W' : World} (h : Drawn0 W W') : Below W.heap.size W W' := by
 obtain ⟨n, rfl⟩ := h
 exact pw_below_drewN (Below.refl _ _) _
theorem pl_C4 {W : World} {g : Nat} {a0 a1 a2 a3 : Bool} {s0 b1 b2 b3 : ByteArray} {t : TypeId} (h : W.heap[g]? = some (.cells #[.bool a0, .string s0, .bool a1, .string b1, .bool a2, .string b2, .bool a3, .string b3] t (0, 0))) : Kd.C k23 W (some ⟨g, 0, none⟩) 4 [⟨a0, s0⟩, ⟨a1, b1⟩, ⟨a2, b2⟩, ⟨a3, b3⟩] := by
 refine ⟨rfl, by decide, fun _ => ⟨_, rfl, fun j p hp => ?_⟩⟩
 have two : ∀ (m : Nat) (x : Bool) (y : ByteArray), W.cell? ⟨g, m, none⟩ = some (.bool x) → W.cell? ⟨g, m + 1, none⟩ = some (.string y) → ∀ i u, [Value.bool x, Value.string y][i]? = some u → W.cell? ((⟨g, 0, none⟩ : Addr).add (m + i)) = some u := by
  intro m x y h1 h2 i u hu
  have e : (⟨g, 0, none⟩ : Addr).add (m + i) = ⟨g, m + i, none⟩ := by rw [Addr.add_mid, Nat.zero_add]
  rw [e]
  rcases i with _ | _ | i
  ·cases hu; exact h1
  ·cases hu; exact h2
  ·simp at hu
 rcases j with _ | _ | _ | _ | j
 ·cases hp; exact ⟨_, rfl, k23_mk W _, two 0 a0 s0 ((blk_cell h 0).trans rfl) ((blk_cell h 1).trans rfl)⟩
 ·cases hp; exact ⟨_, rfl, k23_mk W _, two 2 a1 b1 ((blk_cell h 2).trans rfl) ((blk_cell h 3).trans rfl)⟩
 ·cases hp; exact ⟨_, rfl, k23_mk W _, two 4 a2 b2 ((blk_cell h 4).trans rfl) ((blk_cell h 5).trans rfl)⟩
 ·cases hp; exact ⟨_, rfl, k23_mk W _, two 6 a3 b3 ((blk_cell h 6).trans rfl) ((blk_cell h 7).trans rfl)⟩
 ·simp at hp
theorem pl_C3 {W : World} {g : Nat} {s0 b1 b2 : ByteArray} {t : TypeId} (h : W.heap[g]? = some (.cells #[.string s0, .string b1, .string b2] t (0, 0))) : Kd.C Kd.string W (some ⟨g, 0, none⟩) 3 [s0, b1, b2] := by
 refine ⟨rfl, by decide, fun _ => ⟨_, rfl, fun j p hp => ?_⟩⟩
 have one : ∀ (m : Nat) (y : ByteArray), W.cell? ⟨g, m, none⟩ = some (.string y) → ∀ i u, [Value.string y][i]? = some u → W.cell? ((⟨g, 0, none⟩ : Addr).add (m * 1 + i)) = some u := by
  intro m y h1 i u hu
  have e : (⟨g, 0, none⟩ : Addr).add (m * 1 + i) = ⟨g, m + i, none⟩ := by rw [Addr.add_mid, Nat.zero_add, Nat.mul_one]
  rw [e]
  rcases i with _ | i
  ·cases hu; exact h1
  ·simp at hu
 rcases j with _ | _ | _ | j
 ·cases hp; exact ⟨_, rfl, rfl, one 0 s0 ((blk_cell h 0).trans rfl)⟩
 ·cases hp; exact ⟨_, rfl, rfl, one 1 b1 ((blk_cell h 1).trans rfl)⟩
 ·cases hp; exact ⟨_, rfl, rfl, one 2 b2 ((blk_cell h 2).trans rfl)⟩
 ·simp at hp
def pyLI : Value → Nat
 | .int _ n => n.toNat
 | _ => 0
theorem pl_step {k : Nat} {l : List S29} {i : Nat} {r : Bool} (h : laws_pypi.go k (l.drop i) = some r) (hi : i < l.length) : ∃ b, plOk' k (rd_T29 l (i : Int)) = some b ∧ (b = true → laws_pypi.go k (l.drop (i + 1)) = some r) ∧ (b = false → r = false) := by
 have e : rd_T29 l (i : Int) = l[i] := by
  unfold rd_T29
  rw [Int.toNat_natCast, List.getD_eq_getElem?_getD, List.getElem?_eq_getElem hi]
  rfl
 rw [List.drop_eq_getElem_cons hi, laws_pypi.go] at h
 obtain ⟨b, hb, h⟩ := Option.bind_eq_some_iff.1 h
 refine ⟨b, by rw [e]; exact hb, ?_, ?_⟩
 ·intro hh
  rw [if_pos hh] at h
  exact h
 ·intro hh
  rw [if_neg (by rw [hh]; decide)] at h
  exact (Option.some.inj h).symm
set_option maxRecDepth 100000 in
set_option maxHeartbeats 8000000 in
theorem laws_pypi.calls (k : Nat) (A0 : Option Addr) (c0 : Nat) (l0 : List S29) (r : Bool) (w : World) (hr0 : Kd.C k29 w A0 l0.length l0) (hc0 : l0.length ≤ c0) (h : laws_pypi.f k l0 = some r) :
  Calls Tryz.prog 6 #[.slice A0 l0.length c0] w fun e w' => e = .returned (.bool r) ∧ Below w.heap.size w w' := by
 have hm0 := Kd.C_max hr0
 have HR0 := Aside0.mk hr0
 have HH : Aside0 (laws_pypi.go k (l0.drop 0) = some r) := ⟨h⟩
 clear hr0 h
 obtain ⟨n0, hn0⟩ : ∃ n, n = l0.length := ⟨_, rfl⟩
 have HN : Aside0 (n0 = l0.length) := ⟨hn0⟩
 rw [← hn0] at hc0 hm0 ⊢
 clear hn0
 go_enter Tryz.func6, Tryz.ntmps6
 go_wp2
 go_loopw [7] (fun v7 wr => ∃ i : Nat, v7 = .int .i64 (i : Int) ∧ i ≤ n0 ∧ Aside0 (laws_pypi.go k (l0.drop i) = some r) ∧ Aside0 (Below w.heap.size w wr)) (fun v7 wr => n0 - pyLI v7)
 case atStart => exact ⟨0, rfl, Nat.zero_le _, HH, ⟨Below.refl _ _⟩⟩
 case round =>
  clear HH
  obtain ⟨i, rfl, him, HI, HB⟩ := hrel
  by_cases hi : i < n0
  ·have hd : decide ((i : Int) < (n0 : Int)) = true := decide_eq_true (by omega)
   have hi0 : (0 : Int) ≤ (i : Int) := by omega
   have hia : (i : Int) < (n0 : Int) := by omega
   obtain ⟨b, hb, hb1, hb2⟩ := pl_step HI.out (by rw [← HN.out]; exact hi)
   obtain ⟨ad, cs, hA, _, hK, hc0⟩ := Kd.C_get (Kd.C_below HR0.out HB.out) z29 (i : Int) (by omega) (by rw [← HN.out]; omega)
   have hc : ∀ j u, cs[j]? = some u → wr.cell? (ad.add (i * 17 + j)) = some u := hc0
   have hK : (k29).K wr (rd_T29 l0 (i : Int)) cs := hK
   obtain ⟨A2, c2, A15, c15, A16, c16, hcs, l2, g2, l15, g15, l16, g16⟩ := k29_open hK
   subst hA
   have ht := hb
   unfold plOk' at ht
   clear hb hc0 hK
   generalize rd_T29 l0 (i : Int) = x at *
   obtain ⟨⟨en, em⟩, rl, ⟨ph, pl, ⟨pn, pm⟩⟩, ⟨qh, ql, ⟨qn, qm⟩⟩, ⟨dh, dl, ⟨dn, dm⟩⟩, loc, leg⟩ := x
   dsimp only at *
   obtain ⟨n2, hn2⟩ : ∃ n, n = rl.length := ⟨_, rfl⟩
   obtain ⟨n15, hn15⟩ : ∃ n, n = loc.length := ⟨_, rfl⟩
   obtain ⟨n16, hn16⟩ : ∃ n, n = leg.length := ⟨_, rfl⟩
   rw [← hn2] at hcs l2 g2
   rw [← hn15] at hcs l15 g15
   rw [← hn16] at hcs l16 g16
   have HCE : Aside0 (∀ j v, cs[j]? = some v → wr.cell? ((ad.add (i * 17)).add j) = some v) := ⟨fun j v hv => by rw [py_add_add]; exact hc j v hv⟩
   subst hcs
   have HL : Aside0 ((n2 = rl.length ∧ n2 ≤ c2 ∧ Kd.C k23 wr A2 n2 rl) ∧ (n15 = loc.length ∧ n15 ≤ c15 ∧ Kd.C Kd.string wr A15 n15 loc) ∧ (n16 = leg.length ∧ n16 ≤ c16 ∧ Kd.C Kd.string wr A16 n16 leg)) := ⟨⟨hn2, l2, g2⟩, ⟨hn15, l15, g15⟩, ⟨hn16, l16, g16⟩⟩
   have HT := Aside0.mk ht
   have H1 := Aside0.mk hb1
   have H2 := Aside0.mk hb2
   have HI := Aside0.mk hi
   clear hc hn2 l2 g2 hn15 l15 g15 hn16 l16 g16 ht hb1 hb2 hi
   have hu := Tryz.underlying29
   go_upto_region 4 with (first | ((with_reducible refine gate_dst (N := 10) rfl ?_); refine py_load rfl 29 (.tmp 9) rfl (ad.add (i * 17)) rfl _ _ HCE.out hu rfl py_info ?_) | ((with_reducible refine gate_store (t := 29) (p := 4) rfl ?_); refine wpList_store_mid rfl 29 (.tmp 4) (.tmp 10) rfl wr.heap.size 0 #[.bool en, .string em, .slice A2 n2 c2, .bool ph, .string pl, .bool pn, .string pm, .bool qh, .string ql, .bool qn, .string qm, .bool dh, .string dl, .bool dn, .string dm, .slice A15 n15 c15, .slice A16 n16 c16] rfl rfl (py_there (blk_new wr _) rfl) py_info (all_oneCell_toArray (by simp [Value.oneCell'])) ?_))
   clear HCE hu
   obtain ⟨WZ, hWZ⟩ : ∃ WZ, WZ = wr.alloc (.cells #[.bool false, .string ⟨#[]⟩, .slice none 0 0, .bool false, .string ⟨#[]⟩, .bool false, .string ⟨#[]⟩, .bool false, .string ⟨#[]⟩, .bool false, .string ⟨#[]⟩, .bool false, .string ⟨#[]⟩, .bool false, .string ⟨#[]⟩, .slice none 0 0, .slice none 0 0] 29) := ⟨_, rfl⟩
   have z0 : WZ.heap[wr.heap.size]? = some (.cells #[.bool false, .string ⟨#[]⟩, .slice none 0 0, .bool false, .string ⟨#[]⟩, .bool false, .string ⟨#[]⟩, .bool false, .string ⟨#[]⟩, .bool false, .string ⟨#[]⟩, .bool false, .string ⟨#[]⟩, .bool false, .string ⟨#[]⟩, .slice none 0 0, .slice none 0 0] 29 (0, 0)) := by rw [hWZ]; exact blk_new _ _
   have B9 : Below wr.heap.size wr WZ := by rw [hWZ]; exact (Below.refl _ _).alloc (Nat.le_refl _) _
   obtain ⟨WB, hWB⟩ : ∃ WB, WB = WZ.setCells wr.heap.size 0 [.bool en, .string em, .slice A2 n2 c2, .bool ph, .string pl, .bool pn, .string pm, .bool qh, .string ql, .bool qn, .string qm, .bool dh, .string dl, .bool dn, .string dm, .slice A15 n15 c15, .slice A16 n16 c16] := ⟨_, rfl⟩
   have z1 : WB.heap[wr.heap.size]? = some (.cells #[.bool en, .string em, .slice A2 n2 c2, .bool ph, .string pl, .bool pn, .string pm, .bool qh, .string ql, .bool qn, .string qm, .bool dh, .string dl, .bool dn, .string dm, .slice A15 n15 c15, .slice A16 n16 c16] 29 (0, 0)) := by rw [hWB]; exact py_put_blk z0 rfl
   have B0 : Aside0 (Below wr.heap.size wr WB) := ⟨by rw [hWB]; exact py_put_below (Nat.le_refl _) _ _ _ B9⟩
   have e1 : (#[.bool en, .string em, .slice A2 n2 c2, .bool ph, .string pl, .bool pn, .string pm, .bool qh, .string ql, .bool qn, .string qm, .bool dh, .string dl, .bool dn, .string dm, .slice A15 n15 c15, .slice A16 n16 c16] : Array Value).toList = [.bool en, .string em, .slice A2 n2 c2, .bool ph, .string pl, .bool pn, .string pm, .bool qh, .string ql, .bool qn, .string qm, .bool dh, .string dl, .bool dn, .string dm, .slice A15 n15 c15, .slice A16 n16 c16] := rfl
   rw [← hWZ, ← hWB]
   have HK : Aside0 (∀ W, Below WB.heap.size WB W → _) := ⟨fun W hB => pl_S17 (pl_keep hB z1)⟩
   have W0 : Aside0 (Below WB.heap.size WB WB) := ⟨Below.refl _ _⟩
   clear hWB hWZ z0 z1 B9 e1
   obtain ⟨x0, x1, x2, x3, x4, x5, x6, x7, x8, x9, x10, x11, x12, x13, x14, x15, x16⟩ := HK.out WB W0.out
   have ht := HT.out
   unfold plOk at ht
   clear HT
   obtain ⟨a1, h1, ht⟩ := Option.bind_eq_some_iff.1 ht
   have U1 : Aside0 (∀ W, Below wr.heap.size wr W → Calls Tryz.prog 15 #[.agg #[.bool en, .string em, .slice A2 n2 c2, .bool ph, .string pl, .bool pn, .string pm, .bool qh, .string ql, .bool qn, .string qm, .bool dh, .string dl, .bool dn, .string dm, .slice A15 n15 c15, .slice A16 n16 c16]] W fun e w' => e = .returned (.bool a1) ∧ Below W.heap.size W w') := ⟨fun W hB => by
    obtain ⟨⟨e2, l2, g2⟩, ⟨e15, l15, g15⟩, ⟨e16, l16, g16⟩⟩ := HL.out
    have := spec_PyPIKnown.calls k en em A2 c2 rl ph pl pn pm qh ql qn qm dh dl dn dm A15 c15 loc A16 c16 leg a1 W (by rw [← e2]; exact Kd.C_below g2 hB) (by rw [← e2]; exact l2) (by rw [← e15]; exact Kd.C_below g15 hB) (by rw [← e15]; exact l15) (by rw [← e16]; exact Kd.C_below g16 hB) (by rw [← e16]; exact l16) h1
    rw [← e2, ← e15, ← e16] at this
    exact this⟩
   have V1 := Aside0.mk (U1.out WB (pl_next B0.out W0.out))
   clear U1 h1
   have HT1 := Aside0.mk ht
   clear ht
   go_wp2_with (go_at_call 15; (with_reducible refine (V1.out).mono ?_))
   rintro e W1_ ⟨rfl, hB⟩
   have W1 := Aside0.mk (pl_next W0.out hB)
   clear hB V1 x0 x1 x2 x3 x4 x5 x6 x7 x8 x9 x10 x11 x12 x13 x14 x15 x16
   cases a1 with
   | false =>
    have HR : Aside0 (r = false) := ⟨H2.out (by have := HT1.out; rw [if_neg (by decide)] at this; exact (Option.some.inj this).symm)⟩
    have HBB : Aside0 (Below w.heap.size w W1_) := ⟨pl_next HB.out (pl_next B0.out W1.out)⟩
    clear H1 H2 HL HK W1 B0 HT1 HB
    go_wp2
    go_ret
    exact ⟨by rw [HR.out]; rfl, HBB.out⟩
   | true =>
    have ht := HT1.out
    rw [if_pos rfl] at ht
    clear HT1
    obtain ⟨x0, x1, x2, x3, x4, x5, x6, x7, x8, x9, x10, x11, x12, x13, x14, x15, x16⟩ := HK.out W1_ W1.out
    obtain ⟨a2, h2, ht⟩ := Option.bind_eq_some_iff.1 ht
    have U2 : Aside0 (∀ W, Below wr.heap.size wr W → Calls Tryz.prog 16 #[.slice A2 n2 c2] W fun e w' => e = .returned (.bool a2) ∧ Below W.heap.size W w') := ⟨fun W hB => by
     obtain ⟨⟨e2, l2, g2⟩, _⟩ := HL.out
     have := laws_numbers.calls k A2 c2 rl a2 W (by rw [← e2]; exact Kd.C_below g2 hB) (by rw [← e2]; exact l2) h2
     rw [← e2] at this
     exact this⟩
    have V2 := Aside0.mk (U2.out W1_ (pl_next B0.out W1.out))
    clear U2 h2
    have HT2 := Aside0.mk ht
    clear ht
    go_wp2_with (go_at_call 16; (with_reducible refine (V2.out).mono ?_))
    rintro e W2_ ⟨rfl, hB⟩
    have W2 := Aside0.mk (pl_next W1.out hB)
    clear hB V2 W1 x0 x1 x2 x3 x4 x5 x6 x7 x8 x9 x10 x11 x12 x13 x14 x15 x16
    cases a2 with
    | false =>
     have HR : Aside0 (r = false) := ⟨H2.out (by have := HT2.out; rw [if_neg (by decide)] at this; exact (Option.some.inj this).symm)⟩
     have HBB : Aside0 (Below w.heap.size w W2_) := ⟨pl_next HB.out (pl_next B0.out W2.out)⟩
     clear H1 H2 HL HK W2 B0 HT2 HB
     go_wp2
     go_ret
     exact ⟨by rw [HR.out]; rfl, HBB.out⟩
    | true =>
     have ht := HT2.out
     rw [if_pos rfl] at ht
     clear HT2
     obtain ⟨x0, x1, x2, x3, x4, x5, x6, x7, x8, x9, x10, x11, x12, x13, x14, x15, x16⟩ := HK.out W2_ W2.out
     obtain ⟨a3, h3, ht⟩ := Option.bind_eq_some_iff.1 ht
     have U3 : Aside0 (∀ W, Below wr.heap.size wr W → Calls Tryz.prog 16 #[.slice (some ⟨W.heap.size, 0, none⟩) 4 4] (W.alloc (.cells #[.bool en, .string em, .bool pn, .string pm, .bool qn, .string qm, .bool dn, .string dm] 23)) fun e w' => e = .returned (.bool a3) ∧ Below W.heap.size W w') := ⟨fun W hB => (laws_numbers.calls k (some ⟨W.heap.size, 0, none⟩) 4 [⟨en, em⟩, ⟨pn, pm⟩, ⟨qn, qm⟩, ⟨dn, dm⟩] a3 _ (pl_C4 (blk_new W _)) (Nat.le_refl _) h3).mono fun e w' h => ⟨h.1, ((Below.refl _ _).alloc (Nat.le_refl _) _).trans (h.2.mono (by simp))⟩⟩
     have V3 := Aside0.mk (U3.out W2_ (pl_next B0.out W2.out))
     clear U3 h3
     have HT3 := Aside0.mk ht
     clear ht
     go_wp2_with (go_at_call 16; (with_reducible refine (V3.out).mono ?_))
     rintro e W3_ ⟨rfl, hB⟩
     have W3 := Aside0.mk (pl_next W2.out hB)
     clear hB V3 W2 x0 x1 x2 x3 x4 x5 x6 x7 x8 x9 x10 x11 x12 x13 x14 x15 x16
     cases a3 with
     | false =>
      have HR : Aside0 (r = false) := ⟨H2.out (by have := HT3.out; rw [if_neg (by decide)] at this; exact (Option.some.inj this).symm)⟩
      have HBB : Aside0 (Below w.heap.size w W3_) := ⟨pl_next HB.out (pl_next B0.out W3.out)⟩
      clear H1 H2 HL HK W3 B0 HT3 HB
      go_wp2
      go_ret
      exact ⟨by rw [HR.out]; rfl, HBB.out⟩
     | true =>
      have ht := HT3.out
      rw [if_pos rfl] at ht
      clear HT3
      obtain ⟨x0, x1, x2, x3, x4, x5, x6, x7, x8, x9, x10, x11, x12, x13, x14, x15, x16⟩ := HK.out W3_ W3.out
      obtain ⟨a4, h4, ht⟩ := Option.bind_eq_some_iff.1 ht
      have U4 : Aside0 (∀ W, Below wr.heap.size wr W → Calls Tryz.prog 17 #[.slice A15 n15 c15] W fun e w' => e = .returned (.bool a4) ∧ Below W.heap.size W w') := ⟨fun W hB => by
       obtain ⟨_, ⟨e15, l15, g15⟩, _⟩ := HL.out
       have := laws_short.calls k A15 c15 loc a4 W (by rw [← e15]; exact Kd.C_below g15 hB) (by rw [← e15]; exact l15) h4
       rw [← e15] at this
       exact this.mono fun e w' h => ⟨h.1, pl_drawn h.2⟩⟩
      have V4 := Aside0.mk (U4.out W3_ (pl_next B0.out W3.out))
      clear U4 h4
      have HT4 := Aside0.mk ht
      clear ht
      go_wp2_with (go_at_call 17; (with_reducible refine (V4.out).mono ?_))
      rintro e W4_ ⟨rfl, hB⟩
      have W4 := Aside0.mk (pl_next W3.out hB)
      clear hB V4 W3 x0 x1 x2 x3 x4 x5 x6 x7 x8 x9 x10 x11 x12 x13 x14 x15 x16
      cases a4 with
      | false =>
       have HR : Aside0 (r = false) := ⟨H2.out (by have := HT4.out; rw [if_neg (by decide)] at this; exact (Option.some.inj this).symm)⟩
       have HBB : Aside0 (Below w.heap.size w W4_) := ⟨pl_next HB.out (pl_next B0.out W4.out)⟩
       clear H1 H2 HL HK W4 B0 HT4 HB
       go_wp2
       go_ret
       exact ⟨by rw [HR.out]; rfl, HBB.out⟩
      | true =>
       have ht := HT4.out
       rw [if_pos rfl] at ht
       clear HT4
       obtain ⟨x0, x1, x2, x3, x4, x5, x6, x7, x8, x9, x10, x11, x12, x13, x14, x15, x16⟩ := HK.out W4_ W4.out
       obtain ⟨a5, h5, ht⟩ := Option.bind_eq_some_iff.1 ht
       have U5 : Aside0 (∀ W, Below wr.heap.size wr W → Calls Tryz.prog 17 #[.slice A16 n16 c16] W fun e w' => e = .returned (.bool a5) ∧ Below W.heap.size W w') := ⟨fun W hB => by
        obtain ⟨_, _, e16, l16, g16⟩ := HL.out
        have := laws_short.calls k A16 c16 leg a5 W (by rw [← e16]; exact Kd.C_below g16 hB) (by rw [← e16]; exact l16) h5
        rw [← e16] at this
        exact this.mono fun e w' h => ⟨h.1, pl_drawn h.2⟩⟩
       have V5 := Aside0.mk (U5.out W4_ (pl_next B0.out W4.out))
       clear U5 h5
       have HT5 := Aside0.mk ht
       clear ht
       go_wp2_with (go_at_call 17; (with_reducible refine (V5.out).mono ?_))
       rintro e W5_ ⟨rfl, hB⟩
       have W5 := Aside0.mk (pl_next W4.out hB)
       clear hB V5 W4 x0 x1 x2 x3 x4 x5 x6 x7 x8 x9 x10 x11 x12 x13 x14 x15 x16
       cases a5 with
       | false =>
        have HR : Aside0 (r = false) := ⟨H2.out (by have := HT5.out; rw [if_neg (by decide)] at this; exact (Option.some.inj this).symm)⟩
        have HBB : Aside0 (Below w.heap.size w W5_) := ⟨pl_next HB.out (pl_next B0.out W5.out)⟩
        clear H1 H2 HL HK W5 B0 HT5 HB
        go_wp2
        go_ret
        exact ⟨by rw [HR.out]; rfl, HBB.out⟩
       | true =>
        have ht := HT5.out
        rw [if_pos rfl] at ht
        clear HT5
        obtain ⟨x0, x1, x2, x3, x4, x5, x6, x7, x8, x9, x10, x11, x12, x13, x14, x15, x16⟩ := HK.out W5_ W5.out
        have U6 : Aside0 (∀ W, Below wr.heap.size wr W → Calls Tryz.prog 17 #[.slice (some ⟨W.heap.size, 0, none⟩) 3 3] (W.alloc (.cells #[.string pl, .string ql, .string dl] 9)) fun e w' => e = .returned (.bool b) ∧ Below W.heap.size W w') := ⟨fun W hB => (laws_short.calls k (some ⟨W.heap.size, 0, none⟩) 3 [pl, ql, dl] b _ (pl_C3 (blk_new W _)) (Nat.le_refl _) ht).mono fun e w' h => ⟨h.1, ((Below.refl _ _).alloc (Nat.le_refl _) _).trans ((pl_drawn h.2).mono (by simp))⟩⟩
        have V6 := Aside0.mk (U6.out W5_ (pl_next B0.out W5.out))
        clear U6 ht
        go_wp2_with (go_at_call 17; (with_reducible refine (V6.out).mono ?_))
        rintro e W6_ ⟨rfl, hB⟩
        have W6 := Aside0.mk (pl_next W5.out hB)
        clear hB V6 W5 x0 x1 x2 x3 x4 x5 x6 x7 x8 x9 x10 x11 x12 x13 x14 x15 x16
        cases b with
        | false =>
         have HR : Aside0 (r = false) := ⟨H2.out rfl⟩
         have HBB : Aside0 (Below w.heap.size w W6_) := ⟨pl_next HB.out (pl_next B0.out W6.out)⟩
         clear H1 H2 HL HK W6 B0 HB
         go_wp2
         go_ret
         exact ⟨by rw [HR.out]; rfl, HBB.out⟩
        | true =>
         have HH := Aside0.mk (H1.out rfl)
         have HBB : Aside0 (Below w.heap.size w W6_) := ⟨pl_next HB.out (pl_next B0.out W6.out)⟩
         clear H1 H2 HL HK W6 B0 HB
         go_wp2
         go_roundw
         case rel => exact ⟨i + 1, by go_num, HI.out, HH, HBB⟩
         case measure =>
          have := HI.out
          show n0 - pyLI _ < n0 - pyLI _
          simp only [pyLI]
          omega
  ·obtain rfl : i = n0 := by omega
   have hd : decide ((i : Int) < (i : Int)) = false := decide_eq_false (by omega)
   have HR : Aside0 (r = true) := ⟨by
    have := HI.out
    rw [List.drop_of_length_le (by rw [HN.out]; exact Nat.le_refl _)] at this
    exact (Option.some.inj this).symm⟩
   clear hi
   go_wp2
   go_ret
   exact ⟨by rw [HR.out]; rfl, HB.out⟩

end Go.Proofs.YtipfmkfpaglkkaaGreatDoor.Z
