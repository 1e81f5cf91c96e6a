/- compareRedHatComponents: what it answers (rhTop), its small functions, two builders side by side, a run read by a range. -/
import Derived.Test.YtciojhhncfnagaaDoorProg
import Derived.Below
import Derived.Deep.Draws
import Derived.Deep.AppendLies
import Derived.Maps.AppendAt
import Derived.OwnWalk
import Derived.Laws.BytesArg
import Derived.Laws.MakeOwn
import Derived.Laws.OwnMore
import Derived.Deep.OwnRows
import Derived.Tactics
import Derived.Lib.ConvBytes
import Derived.Laws.Slices
import Derived.WalkKit
import Derived.KernelRfl
import Derived.RowKit3
import Derived.Deep.LoopGhost
import Derived.Deep.QuietTactic
import Derived.BigQuiet
import Derived.WideLaws
import Derived.Deep.DeepCutAuto
import Derived.Deep.CutBlock
import Derived.Deep.RegionHeld3
import Derived.Laws.Rows
import Derived.Lib.AppendStr
import Derived.ArgAppend
import Derived.Laws.IdiomCopy
import Derived.OrdersHeld
import Derived.Laws.BitsLemmas
import Derived.RowKit
import Derived.Test.YtciojhhncfnagaaDoorWWords
import Derived.Test.YtciojhhncfnagaaDoorWLast
import Derived.Test.YtciojhhncfnagaaDoorWMore
import Derived.Test.YtciojhhncfnagaaDoorWN
import Derived.Test.YtciojhhncfnagaaDoorWKept
import Derived.Test.YtciojhhncfnagaaDoorWShare
import Derived.Test.YtciojhhncfnagaaDoorWInvWords
import Derived.Test.YtciojhhncfnagaaDoorGe
import Derived.Lib.OthersKept
import Derived.Laws.RangeAny
import Derived.Laws.RangeString
import Derived.Test.YtciojhhncfnagaaDoorBr
import Derived.Test.YtciojhhncfnagaaDoorShelf
import Derived.Test.YtciojhhncfnagaaDoorBy
import Derived.Lib.UnsafeStr
import Derived.RegionTactic
namespace Go.Proofs.YtciojhhncfnagaaDoor.Rh
open Go Go.RowKit Go.Proofs.YtciojhhncfnagaaDoorW.PrintWords Go.Proofs.YtciojhhncfnagaaDoorW.PrintLast Go.Proofs.YtciojhhncfnagaaDoorW.PrintMore
attribute [local go_sem high] Go.Proofs.YtciojhhncfnagaaDoor.Ge.gtr_str
attribute [local go_sem] max2_int min2_int max_two min_two max_three min_three max_four min_four
set_option linter.unusedVariables false
set_option linter.unusedSimpArgs false

/-- What is left out ahead of a run. -/
def rhTrim (c : UInt8) : Bool := !By.lt c && !By.dg c && c != 126 && c != 94
def rhSkip (l : List UInt8) : List UInt8 := l.dropWhile rhTrim
def rhZ (l : List UInt8) : List UInt8 := l.dropWhile (· == 48)
def rhRuns (d : Bool) (x y : List UInt8) : Int := if d then (if (rhZ y).length < (rhZ x).length then 1 else if (rhZ x).length < (rhZ y).length then -1 else Lib.compareBytes (rhZ x) (rhZ y)) else Lib.compareBytes x y
def rhCls (d : Bool) (c : UInt8) : Bool := if d then By.dg c else By.lt c
/-- The comparison from two places on; n: more than both have left. -/
def rhL : Nat → List UInt8 → List UInt8 → Int
  | 0, _, _ => 0
  | n + 1, a0, b0 => match rhSkip a0, rhSkip b0 with
    | [], [] => 0
    | [], c :: b => if c = 126 then 1 else if c = 94 then -1 else -1
    | c :: a, [] => if c = 126 then -1 else if c = 94 then 1 else 1
    | c :: a, e :: b =>
      if c = 126 then (if e = 126 then rhL n a b else -1)
      else if e = 126 then 1
      else if c = 94 then (if e = 94 then rhL n a b else -1)
      else if e = 94 then 1
      else if ((e :: b).takeWhile (rhCls (By.dg c))).length = 0 then (if By.dg c then 1 else -1)
      else if rhRuns (By.dg c) ((c :: a).takeWhile (rhCls (By.dg c))) ((e :: b).takeWhile (rhCls (By.dg c))) ≠ 0 then rhRuns (By.dg c) ((c :: a).takeWhile (rhCls (By.dg c))) ((e :: b).takeWhile (rhCls (By.dg c)))
      else rhL n ((c :: a).dropWhile (rhCls (By.dg c))) ((e :: b).dropWhile (rhCls (By.dg c)))
def rhTop (a b : List UInt8) : Int := if a.length = 0 ∧ ¬ b.length = 0 then -1 else if ¬ a.length = 0 ∧ b.length = 0 then 1 else rhL (a.length + b.length + 1) a b
/-! the small ones -/
def rDig (c : Int) : Bool := decide (48 ≤ c ∧ c ≤ 57)
def rLet (c : Int) : Bool := decide (97 ≤ c ∧ c ≤ 122 ∨ 65 ≤ c ∧ c ≤ 90)
set_option maxHeartbeats 1000000 in
theorem rh_isDig (c : Int) (w : World) : Calls Tryd.prog 44 #[.int .i32 c] w fun e w' => e = .returned (.bool (rDig c)) ∧ w' = w := by
  unfold rDig
  by_cases h : 48 ≤ c
  · have h1 : decide ((48 : Int) ≤ c) = true := decide_eq_true (by omega)
    have h2 : decide (c ≤ 57) = decide (48 ≤ c ∧ c ≤ 57) := by
      rw [decide_eq_decide]
      omega
    generalize decide (48 ≤ c ∧ c ≤ 57) = b at h2
    go_enter Tryd.func44, Tryd.ntmps44
    go_wp2
    go_ret
    exact ⟨by first | rfl | (rw [← h2]; rfl) | (simp [h2]), rfl⟩
  · have h1 : decide ((48 : Int) ≤ c) = false := decide_eq_false (by omega)
    have h2 : decide (48 ≤ c ∧ c ≤ 57) = false := decide_eq_false (by omega)
    rw [h2]
    go_enter Tryd.func44, Tryd.ntmps44
    go_wp2
    go_ret
    exact ⟨rfl, rfl⟩
set_option maxHeartbeats 1000000 in
theorem rh_isLet (c : Int) (w : World) : Calls Tryd.prog 46 #[.int .i32 c] w fun e w' => e = .returned (.bool (rLet c)) ∧ w' = w := by
  unfold rLet
  by_cases h65 : 65 ≤ c
  · have h1 : decide ((65 : Int) ≤ c) = true := decide_eq_true (by omega)
    by_cases h90 : c ≤ 90
    · have h2 : decide (c ≤ 90) = true := decide_eq_true (by omega)
      have h3 : decide (97 ≤ c ∧ c ≤ 122 ∨ 65 ≤ c ∧ c ≤ 90) = true := decide_eq_true (by omega)
      rw [h3]
      go_enter Tryd.func46, Tryd.ntmps46
      go_wp2
      go_ret
      exact ⟨rfl, rfl⟩
    · have h2 : decide (c ≤ 90) = false := decide_eq_false (by omega)
      by_cases h97 : 97 ≤ c
      · have h4 : decide ((97 : Int) ≤ c) = true := decide_eq_true (by omega)
        have h3 : decide (c ≤ 122) = decide (97 ≤ c ∧ c ≤ 122 ∨ 65 ≤ c ∧ c ≤ 90) := by
          rw [decide_eq_decide]
          omega
        generalize decide (97 ≤ c ∧ c ≤ 122 ∨ 65 ≤ c ∧ c ≤ 90) = b at h3
        go_enter Tryd.func46, Tryd.ntmps46
        go_wp2
        go_ret
        exact ⟨by first | rfl | (rw [← h3]; rfl) | (simp [h3]), rfl⟩
      · have h4 : decide ((97 : Int) ≤ c) = false := decide_eq_false (by omega)
        have h3 : decide (97 ≤ c ∧ c ≤ 122 ∨ 65 ≤ c ∧ c ≤ 90) = false := decide_eq_false (by omega)
        rw [h3]
        go_enter Tryd.func46, Tryd.ntmps46
        go_wp2
        go_ret
        exact ⟨rfl, rfl⟩
  · have h1 : decide ((65 : Int) ≤ c) = false := decide_eq_false (by omega)
    have h4 : decide ((97 : Int) ≤ c) = false := decide_eq_false (by omega)
    have h3 : decide (97 ≤ c ∧ c ≤ 122 ∨ 65 ≤ c ∧ c ≤ 90) = false := decide_eq_false (by omega)
    rw [h3]
    go_enter Tryd.func46, Tryd.ntmps46
    go_wp2
    go_ret
    exact ⟨rfl, rfl⟩
theorem rDig_b (c : UInt8) : rDig (c.toNat : Int) = By.dg c := by
  unfold rDig By.dg
  rw [decide_eq_decide]
  omega
theorem rLet_b (c : UInt8) : rLet (c.toNat : Int) = By.lt c := by
  unfold rLet By.lt
  rw [decide_eq_decide]
  omega
set_option maxHeartbeats 2000000 in
theorem rh_trim (c : UInt8) (w : World) : Calls Tryd.prog 45 #[.int .i32 (c.toNat : Int)] w fun e w' => e = .returned (.bool (rhTrim c)) ∧ w' = w := by
  have e1 := rLet_b c
  have e2 := rDig_b c
  have t126 : ((c.toNat : Int) == 126) = (c == 126) := by
    rw [Bool.eq_iff_iff, beq_iff_eq, beq_iff_eq]
    exact ⟨fun h => UInt8.toNat_inj.1 (by have : (126 : UInt8).toNat = 126 := rfl; omega), fun h => by rw [h]; rfl⟩
  have t94 : ((c.toNat : Int) == 94) = (c == 94) := by
    rw [Bool.eq_iff_iff, beq_iff_eq, beq_iff_eq]
    exact ⟨fun h => UInt8.toNat_inj.1 (by have : (94 : UInt8).toNat = 94 := rfl; omega), fun h => by rw [h]; rfl⟩
  have t126' : ((c.toNat : Int) != 126) = (c != 126) := congrArg (!·) t126
  have t94' : ((c.toNat : Int) != 94) = (c != 94) := congrArg (!·) t94
  unfold rhTrim
  rw [← t126', ← t94', ← e1, ← e2]
  clear e1 e2 t126 t94 t126' t94'
  cases h1 : rLet (c.toNat : Int) with
  | true =>
    go_enter Tryd.func45, Tryd.ntmps45
    go_wp2_with (first | (go_at_call 46; refine (rh_isLet _ _).mono ?_; rintro e w' ⟨rfl, rfl⟩) | (go_at_call 44; refine (rh_isDig _ _).mono ?_; rintro e w' ⟨rfl, rfl⟩))
    go_ret
    exact ⟨rfl, rfl⟩
  | false =>
    cases h2 : rDig (c.toNat : Int) with
    | true =>
      go_enter Tryd.func45, Tryd.ntmps45
      go_wp2_with (first | (go_at_call 46; refine (rh_isLet _ _).mono ?_; rintro e w' ⟨rfl, rfl⟩) | (go_at_call 44; refine (rh_isDig _ _).mono ?_; rintro e w' ⟨rfl, rfl⟩))
      go_ret
      exact ⟨rfl, rfl⟩
    | false =>
      cases h3 : ((c.toNat : Int) != 126) with
      | false =>
        go_enter Tryd.func45, Tryd.ntmps45
        go_wp2_with (first | (go_at_call 46; refine (rh_isLet _ _).mono ?_; rintro e w' ⟨rfl, rfl⟩) | (go_at_call 44; refine (rh_isDig _ _).mono ?_; rintro e w' ⟨rfl, rfl⟩))
        go_ret
        exact ⟨by first | rfl | simp, rfl⟩
      | true =>
        go_enter Tryd.func45, Tryd.ntmps45
        go_wp2_with (first | (go_at_call 46; refine (rh_isLet _ _).mono ?_; rintro e w' ⟨rfl, rfl⟩) | (go_at_call 44; refine (rh_isDig _ _).mono ?_; rintro e w' ⟨rfl, rfl⟩))
        go_ret
        exact ⟨by first | rfl | (simp; done) | (simp [h3]), rfl⟩
def RItAt (w : World) (k : Nat) (s : ByteArray) (pos : Nat) : Prop := w.heap[k]? = some (.stringIter s pos)
theorem RItAt.lt {w : World} {k : Nat} {s : ByteArray} {pos : Nat} (h : RItAt w k s pos) : k < w.heap.size := (Array.getElem?_eq_some_iff.1 h).1
theorem RItAt.pos {w : World} {k : Nat} {s : ByteArray} {pos : Nat} (h : RItAt w k s pos) : w.iterPos k = pos := by
  simp only [World.iterPos]
  rw [show w.heap[k]? = _ from h]
set_option maxHeartbeats 4000000 in
theorem rh_inSet (c : UInt8) (w : World) : Calls Tryd.prog 57 #[.int .i32 (c.toNat : Int), .string ⟨#[48]⟩] w fun e w' => e = .returned (.bool (c == 48)) ∧ Below w.heap.size w w' := by
  go_enter Tryd.func57, Tryd.ntmps57
  go_wp2
  go_loopw [] (fun wr => ∃ pos : Nat, Aside0 (RItAt wr w.heap.size ⟨#[48]⟩ pos) ∧ Aside0 (Below w.heap.size w wr) ∧ Aside0 (pos = 0 ∨ (c == 48) = false) ∧ pos ≤ 1) (fun wr => 1 - wr.iterPos w.heap.size)
  case atStart => exact ⟨0, ⟨World.iter_heap w ⟨#[48]⟩ 0⟩, ⟨(Below.refl _ _).alloc (Nat.le_refl _) _⟩, ⟨.inl rfl⟩, by omega⟩
  case round =>
    obtain ⟨pos, HI, HB, HN, hp⟩ := hrel
    by_cases h0 : pos = 0
    · subst h0
      have hnx : ∀ ty, (Instr.next (.pointer (some ⟨w.heap.size, 0, none⟩)) true ty).run Tryd.prog wr = .ok (.tuple #[.bool true, .int .i64 0, .int .i32 48]) (wr.iterAt w.heap.size ⟨#[48]⟩ 1) := fun ty => Lib.run_next_ascii_at wr w.heap.size ⟨#[48]⟩ 0 ty HI.out (by decide) (by decide)
      have HI2 : Aside0 (RItAt (wr.iterAt w.heap.size ⟨#[48]⟩ 1) w.heap.size ⟨#[48]⟩ 1) := ⟨Lib.iterAt_heap wr w.heap.size ⟨#[48]⟩ 0 1 HI.out⟩
      have HB2 : Aside0 (Below w.heap.size w (wr.iterAt w.heap.size ⟨#[48]⟩ 1)) := ⟨Lib.below_iterAt HB.out (Nat.le_refl _) _ _⟩
      have HM := Aside0.mk HI.out.pos
      have t48 : ((c.toNat : Int) == 48) = (c == 48) := by
        rw [Bool.eq_iff_iff, beq_iff_eq, beq_iff_eq]
        exact ⟨fun h => UInt8.toNat_inj.1 (by have : (48 : UInt8).toNat = 48 := rfl; omega), fun h => by rw [h]; rfl⟩
      cases hc : (c == 48) with
      | true =>
        rw [hc] at t48
        go_wp2
        go_ret
        exact ⟨rfl, HB2.out⟩
      | false =>
        rw [hc] at t48
        go_wp2
        go_roundw
        case rel => exact ⟨1, HI2, HB2, ⟨.inr (by first | exact hc | trivial | rfl)⟩, by omega⟩
        case measure =>
          rw [HM.out, HI2.out.pos]
          omega
    · obtain rfl : pos = 1 := by omega
      have hnx : ∀ ty, (Instr.next (.pointer (some ⟨w.heap.size, 0, none⟩)) true ty).run Tryd.prog wr = _ := fun ty => Lib.run_next_end_at wr w.heap.size ⟨#[48]⟩ 1 ty HI.out (by decide)
      have hc : (c == 48) = false := HN.out.resolve_left h0
      go_wp2
      go_ret
      exact ⟨by rw [hc]; rfl, HB.out⟩
theorem rhZ_at (l : List UInt8) (i : Nat) (h : i < l.length) (hc : (l[i] == 48) = true) : rhZ (l.drop i) = rhZ (l.drop (i + 1)) := by
  unfold rhZ
  rw [List.drop_eq_getElem_cons h, List.dropWhile_cons, if_pos hc]
theorem rhZ_not (l : List UInt8) (i : Nat) (h : i < l.length) (hc : (l[i] == 48) = false) : rhZ (l.drop i) = l.drop i := by
  unfold rhZ
  rw [List.drop_eq_getElem_cons h, List.dropWhile_cons, if_neg (fun h => Bool.false_ne_true (hc.symm.trans h))]
set_option maxHeartbeats 4000000 in
theorem rh_trimLeft (l : List UInt8) (ha : ∀ c ∈ l, c.toNat < 128) (hl : l.length ≤ 140737488351) (w : World) : Calls Tryd.prog 50 #[.string (By.ofL l), .string ⟨#[48]⟩] w fun e w' => e = .returned (.string (By.ofL (rhZ l))) ∧ Below w.heap.size w w' := by
  have hsz := By.ofL_size l
  have hx : ∀ i : Nat, (By.ofL l).extract i (By.ofL l).size = By.ofL (l.drop i) := fun i => by rw [hsz, By.ofL_extract, List.take_length]
  have HX := Aside0.mk hx
  have HA := Aside0.mk ha
  clear hx ha
  go_enter Tryd.func50, Tryd.ntmps50
  go_wp2
  go_loopw [] (fun wr => ∃ pos : Nat, Aside0 (RItAt wr w.heap.size (By.ofL l) pos) ∧ Aside0 (Below w.heap.size w wr) ∧ Aside0 (rhZ (l.drop pos) = rhZ l) ∧ pos ≤ l.length) (fun wr => l.length - wr.iterPos w.heap.size)
  case atStart => exact ⟨0, ⟨World.iter_heap w _ 0⟩, ⟨(Below.refl _ _).alloc (Nat.le_refl _) _⟩, ⟨rfl⟩, by omega⟩
  case round =>
    obtain ⟨pos, HI, HB, HV, hp⟩ := hrel
    have HM := Aside0.mk HI.out.pos
    by_cases hpos : pos < l.length
    · have hps : pos < (By.ofL l).size := by omega
      have hnx : ∀ ty, (Instr.next (.pointer (some ⟨w.heap.size, 0, none⟩)) true ty).run Tryd.prog wr = _ := fun ty => Lib.run_next_ascii_at wr w.heap.size (By.ofL l) pos ty HI.out hps (by rw [By.ofL_get]; exact HA.out _ (List.getElem_mem _))
      have hsz2 := HI.out.lt
      have HI2 : Aside0 (RItAt (wr.iterAt w.heap.size (By.ofL l) (pos + 1)) w.heap.size (By.ofL l) (pos + 1)) := ⟨Lib.iterAt_heap wr w.heap.size _ pos _ HI.out⟩
      have HB2 : Aside0 (Below w.heap.size w (wr.iterAt w.heap.size (By.ofL l) (pos + 1))) := ⟨Lib.below_iterAt HB.out (Nat.le_refl _) _ _⟩
      have hs3 : w.heap.size < (wr.iterAt w.heap.size (By.ofL l) (pos + 1)).heap.size := by rw [Lib.iterAt_size]; exact hsz2
      have hg : (By.ofL l)[pos] = l[pos] := rfl
      go_wp2_with (go_at_call 57; refine (rh_inSet l[pos] _).mono ?_)
      rintro e W1 ⟨rfl, b1⟩
      have HB3 : Aside0 (Below w.heap.size w W1) := ⟨HB2.out.trans (b1.mono (by omega))⟩
      have HI3 : Aside0 (RItAt W1 w.heap.size (By.ofL l) (pos + 1)) := ⟨(b1.block _ hs3).trans HI2.out⟩
      clear b1
      cases hc : (l[pos] == 48) with
      | true =>
        have HV2 := rhZ_at l pos hpos hc
        go_wp2
        go_roundw
        case rel => exact ⟨pos + 1, HI3, HB3, ⟨HV2.symm.trans HV.out⟩, by omega⟩
        case measure =>
          rw [HM.out, HI3.out.pos]
          omega
      | false =>
        have hv : rhZ l = l.drop pos := HV.out.symm.trans (rhZ_not l pos hpos hc)
        go_wp2
        go_ret
        refine ⟨?_, HB3.out⟩
        rw [hv, ← HX.out]
        first | rfl | simp
    · have hnx : ∀ ty, (Instr.next (.pointer (some ⟨w.heap.size, 0, none⟩)) true ty).run Tryd.prog wr = _ := fun ty => Lib.run_next_end_at wr w.heap.size (By.ofL l) pos ty HI.out (by omega)
      have hv : rhZ l = [] := by
        rw [← HV.out, List.drop_of_length_le (by omega)]
        rfl
      go_wp2
      go_ret
      refine ⟨?_, HB.out⟩
      rw [hv]
      rfl
/-! Two builders side by side: what one writes leaves the other alone. -/
/-- A builder in block b whose row begins no lower than block M. -/
def BX (b M : Nat) (bs : List Value) (w : World) : Prop := ∃ p v, (p = .pointer none ∨ p = .pointer (some ⟨b, 0, none⟩)) ∧ w.heap[b]? = some (.cells #[p, v] 71 (0, 0)) ∧ w.ownsRowF M 5 1 v bs.length bs ∧ b < M
/-- Below M nothing has turned but block b. -/
def FrB (b M : Nat) (w w' : World) : Prop := ∀ k, k < M → k ≠ b → w'.heap[k]? = w.heap[k]?
theorem bx_noblk {b M : Nat} {v : Value} {n : Nat} {xs : List Value} {w : World} (h : w.ownsRowF M 5 1 v n xs) (hb : b < M) : v.ownBlock ≠ some b := fun e => by
  have := (h.lt b e).1
  omega
theorem grownBy_put (w : World) (b i : Nat) (v : Value) : w.grownBy (w.setCell ⟨b, i, none⟩ v) (some b) := ⟨rfl, rfl, rfl, by simp [World.setCell], fun k hk hne => Below.heap_setCell w ⟨b, i, none⟩ v k (fun e => hne (by rw [e]))⟩
set_option maxHeartbeats 1000000 in
set_option maxRecDepth 100000 in
theorem copyCheck2 (b M : Nat) (bs : List Value) (w : World) (h : BX b M bs w) :
    Calls Tryd.prog 55 #[.pointer (some ⟨b, 0, none⟩)] w fun e w' => e = .returned (.tuple #[]) ∧ (∃ v, w'.heap[b]? = some (.cells #[.pointer (some ⟨b, 0, none⟩), v] 71 (0, 0)) ∧ w'.ownsRowF M 5 1 v bs.length bs ∧ w'.heap.size = w.heap.size ∧ Below b w w') ∧ FrB b M w w' := by
  obtain ⟨j, hj, hjs⟩ := Option.map_eq_some_iff.1 Bd.sizeB
  obtain ⟨p, v, hp, hbk, hown, hbM⟩ := h
  have hA : ∀ q, Lib.BuilderAtF 71 5 b b q bs w → Lib.BuilderAtF 71 5 b b q bs w := fun _ h => h
  have hne := bx_noblk hown hbM
  have c0 : w.cell? ⟨b, 0, none⟩ = some p := by rw [Lib.cell_of_heap hbk]; rfl
  have f0 : w.frozen? ⟨b, 0, none⟩ = false := Lib.frozen_of_heap hbk 0
  have hs : w.shape? b = some (71, 2) := by simp [World.shape?, hbk]
  rcases hp with rfl | rfl
  · have h1 := blk_put (cs' := #[.pointer (some ⟨b, 0, none⟩), v]) hbk 0 (.pointer (some ⟨b, 0, none⟩)) rfl
    have h2 : (w.setCell ⟨b, 0, none⟩ (.pointer (some ⟨b, 0, none⟩))).ownsRowF M 5 1 v bs.length bs := hown.kept (row := some b) (grownBy_put w b 0 _) (.inr hne)
    have HP := Aside0.mk (And.intro h1 h2)
    clear h1 h2 hown
    go_enter Tryd.func55, Tryd.ntmps55
    go_wp2
    rw [Lib.run_to_unsafe w ⟨b, 0, none⟩ Tryd.underlying69 Tryd.underlying80 hj (by rw [hjs]; decide) hs (Nat.zero_lt_succ 1)]
    simp only [Result.andThen]
    rw [Oper.upon_value]
    go_wp2
    rw [run_callFunc_extern Tryd.func59 (by kernel_rfl) (by kernel_rfl) (by kernel_rfl) (e := Extern.AbiNoEscape.same) (by kernel_rfl)]
    rw [Lib.run_noEscape]
    simp only [Result.andThen]
    rw [Oper.upon_value]
    go_wp2
    rw [Lib.run_from_unsafe w ⟨b, 0, none⟩ Tryd.underlying80 Tryd.underlying69 hj hs Bd.liesB]
    simp only [Result.andThen]
    rw [Oper.upon_value]
    go_wp2
    go_end0
    refine ⟨rfl, ⟨v, HP.out.1, HP.out.2, by simp [World.setCell], (Below.refl b w).setCell (p := ⟨b, 0, none⟩) (Nat.le_refl _) _⟩, fun k hk hkb => ?_⟩
    exact Below.heap_setCell w ⟨b, 0, none⟩ _ k hkb
  · go_enter Tryd.func55, Tryd.ntmps55
    go_wp2
    rw [Lib.run_neq_ptr_same w _ Tryd.underlying69 hj]
    go_wp2
    go_end0
    exact ⟨rfl, ⟨v, hbk, hown, rfl, Below.refl b _⟩, fun _ _ _ => rfl⟩
set_option maxHeartbeats 2000000 in
set_option maxRecDepth 100000 in
/-- (*strings.Builder).WriteRune of a rune below 128: one byte more; below M nothing else turns. -/
theorem writeRune2 (b M : Nat) (bs : List Value) (c : Nat) (hc : c < 128) (w : World) (h : BX b M bs w) (hlen : bs.length + 1 ≤ 140737488355328) (hMw : M ≤ w.heap.size) :
    Calls Tryd.prog 47 #[.pointer (some ⟨b, 0, none⟩), .int .i32 c] w fun e w' => e = .returned (.tuple #[.int .i64 1, .nilIface]) ∧ BX b M (bs ++ [.int .u8 c]) w' ∧ Below b w w' ∧ FrB b M w w' := by
  have hbM : b < M := by obtain ⟨_, _, _, _, _, h⟩ := h; exact h
  go_enter Tryd.func47, Tryd.ntmps47
  go_wp2_with (go_at_call 55; refine (copyCheck2 b M bs _ h).mono ?_)
  rintro e w1 ⟨rfl, ⟨v, hbk, hown, hsz, hb1⟩, hk1⟩
  have hne := bx_noblk hown hbM
  obtain ⟨ao, n', cap, rfl, hn'⟩ : ∃ ao n' cap, v = .slice ao n' cap ∧ n' = bs.length := by
    rcases hown.2 with ⟨hv, h0⟩ | ⟨g, cap, cur, fz, hv, _⟩
    · exact ⟨_, _, _, hv, by omega⟩
    · exact ⟨_, _, _, hv, rfl⟩
  subst hn'
  have c0 : w1.cell? ⟨b, 0, none⟩ = some (.pointer (some ⟨b, 0, none⟩)) := by rw [Lib.cell_of_heap hbk]; rfl
  have c1 : w1.cell? ⟨b, 1, none⟩ = some (.slice ao bs.length cap) := by rw [Lib.cell_of_heap hbk]; rfl
  have hM1 : M ≤ w1.heap.size := by omega
  have HSZ := Aside0.mk hsz
  clear hsz
  go_wp2_with (go_at_call 56; refine (Bd.appendRune M _ bs.length bs c hc _ hown (by omega) hM1).mono ?_)
  rintro e w2 ⟨v', rfl, hown', hgrow⟩
  have hlt : b < w1.heap.size := (Array.getElem?_eq_some_iff.1 hbk).1
  have hkeep : ∀ k, k < M → w2.heap[k]? = w1.heap[k]? := fun k hk => by
    rw [hgrow.block k (by simp; omega) (fun e => by have := (hown.lt k e.symm).1; omega), Lib.alloc_old w1 _ k (by omega)]
  have hb2 : w2.heap[b]? = some (.cells #[.pointer (some ⟨b, 0, none⟩), .slice ao bs.length cap] 71 (0, 0)) := by
    rw [hkeep b hbM]
    exact hbk
  have HKEEP := Aside0.mk hkeep
  have HB2 : Aside0 (Below b w w2) := ⟨(hb1.alloc (by omega) _).grown hgrow (by simp; omega) (fun k hk => by have := (hown.lt k hk).1; omega)⟩
  have d0 : w2.cell? ⟨b, 0, none⟩ = some (.pointer (some ⟨b, 0, none⟩)) := by rw [Lib.cell_of_heap hb2]; rfl
  have d1 : w2.cell? ⟨b, 1, none⟩ = some (.slice ao bs.length cap) := by rw [Lib.cell_of_heap hb2]; rfl
  have f1 : w2.frozen? ⟨b, 1, none⟩ = false := Lib.frozen_of_heap hb2 1
  obtain ⟨ao', n'', cap', rfl, hn''⟩ : ∃ ao n' cap, v' = .slice ao n' cap ∧ n' = bs.length + 1 := by
    rcases hown'.2 with ⟨hv, h0⟩ | ⟨g, cap, cur, fz, hv, _⟩
    · omega
    · exact ⟨_, _, _, hv, rfl⟩
  subst hn''
  have hm : bs.length + 1 ≤ 140737488355328 := hlen
  have hne2 := bx_noblk hown' hbM
  have h1 := blk_put (cs' := #[.pointer (some ⟨b, 0, none⟩), .slice ao' (bs.length + 1) cap']) hb2 1 (.slice ao' (bs.length + 1) cap') rfl
  have h2 : (w2.setCell ⟨b, 1, none⟩ (.slice ao' (bs.length + 1) cap')).ownsRowF M 5 1 (.slice ao' (bs.length + 1) cap') (bs.length + 1) (bs ++ [.int .u8 c]) := hown'.kept (row := some b) (grownBy_put w2 b 1 _) (.inr hne2)
  have HF : Aside0 (BX b M (bs ++ [.int .u8 c]) (w2.setCell ⟨b, 1, none⟩ (.slice ao' (bs.length + 1) cap'))) := ⟨⟨_, _, .inr rfl, h1, by simpa using h2, hbM⟩⟩
  have HK1 := Aside0.mk hk1
  clear h1 h2 hown hown' hkeep hgrow hk1 hb1 hM1 hMw
  go_wp2
  go_ret2
  refine ⟨?_, HF.out, HB2.out.setCell (p := ⟨b, 1, none⟩) (Nat.le_refl _) _, fun k hk hkb => ?_⟩
  · have e : ((bs.length : Int) + 1 - (bs.length : Int)) = 1 := by omega
    simp [e]
  · exact (Below.heap_setCell w2 ⟨b, 1, none⟩ _ k hkb).trans ((HKEEP.out k hk).trans (HK1.out k hk hkb))
set_option maxHeartbeats 2000000 in
set_option maxRecDepth 100000 in
/-- (*strings.Builder).String of a builder that holds a byte: its row is frozen, nothing else turns. -/
theorem string2 (b g cap M : Nat) (p : Value) (l : List UInt8) (w : World) (hbk : w.heap[b]? = some (.cells #[p, .slice (some ⟨g, 0, none⟩) l.length cap] 71 (0, 0))) (hown : w.ownsRowF M 5 1 (.slice (some ⟨g, 0, none⟩) l.length cap) l.length (Lib.byteCells l)) (h0 : l ≠ []) (hb : b < M) :
    Calls Tryd.prog 49 #[.pointer (some ⟨b, 0, none⟩)] w fun e w' => e = .returned (.string ⟨l.toArray⟩) ∧ Below M w w' ∧ w'.heap.size = w.heap.size ∧ ∀ k, k ≠ g → w'.heap[k]? = w.heap[k]? := by
  have hl0 : l.length ≠ 0 := by simpa using h0
  obtain ⟨cur, fz, hMg, hg, hfz, hnc, hcm, hcs, htake⟩ : ∃ cur fz, M ≤ g ∧ w.heap[g]? = some (.cells cur 5 fz) ∧ fz.2 ≤ l.length * 1 ∧ l.length ≤ cap ∧ cap ≤ maxLen ∧ cur.size = cap * 1 ∧ cur.toList.take (l.length * 1) = Lib.byteCells l := by
    rcases hown.2 with ⟨_, hz⟩ | ⟨g', cap', cur, fz, hv, r⟩
    · exact absurd hz hl0
    · injection hv with e1 e2 e3
      injection e1 with e1
      injection e1 with e1
      subst e1
      subst e3
      exact ⟨cur, fz, r⟩
  have c1 : w.drew.cell? ⟨b, 1, none⟩ = some (.slice (some ⟨g, 0, none⟩) l.length cap) := by
    have : w.drew.heap[b]? = some (.cells #[p, .slice (some ⟨g, 0, none⟩) l.length cap] 71 (0, 0)) := hbk
    rw [Lib.cell_of_heap this]; rfl
  have hSD : (Builtin.unsafeSliceData_ #[55] 78 #[.slice (some ⟨g, 0, none⟩) l.length cap]).run Tryd.prog w.drew = .ok (.pointer (some ⟨g, 0, none⟩)) w.drew :=
    Lib.run_unsafeSliceData_row _ _ _ _ _ _ (by omega)
  have hUS : (Builtin.unsafeString_ #[78, 3] 9 #[.pointer (some ⟨g, 0, none⟩), .int .i64 l.length]).run Tryd.prog w.drew = .ok (.string ⟨l.toArray⟩) (w.drew.freeze ⟨g, 0, none⟩ l.length) := by
    refine Lib.run_unsafeString_row w.drew 78 3 9 5 Tryd.underlying78 (by kernel_rfl) g cur.size (by have hg' : w.drew.heap[g]? = some (.cells cur 5 fz) := hg; simp [World.shape?, hg']) l h0 (by omega) (by unfold maxLen at hcm; omega) ?_
    intro j x hx
    have := hown.cells (g := g) rfl j (.int .u8 x.toNat) (by simp [Lib.byteCells, hx])
    exact this
  have HE : Aside0 (Below M w (w.drew.freeze ⟨g, 0, none⟩ l.length) ∧ (w.drew.freeze ⟨g, 0, none⟩ l.length).heap.size = w.heap.size ∧ ∀ k, k ≠ g → (w.drew.freeze ⟨g, 0, none⟩ l.length).heap[k]? = w.heap[k]?) := ⟨Lib.below_freeze (Below.drew (Below.refl M w)) (p := ⟨g, 0, none⟩) hMg _, by
    unfold World.freeze
    rw [if_neg hl0]
    show (w.heap.modify g _).size = _
    simp, fun k hk => by
    unfold World.freeze
    rw [if_neg hl0]
    show (w.heap.modify g _)[k]? = _
    rw [Array.getElem?_modify, if_neg (by omega)]⟩
  clear hown hg hbk htake
  go_enter Tryd.func49, Tryd.ntmps49
  go_wp2
  go_region
  all_goals (go_wp2; go_ret; exact ⟨rfl, HE.out⟩)
/-! The run of one kind, read by a range over a text into a builder. -/
def FrR (b it M : Nat) (wS wi : World) : Prop := ∀ k, k < M → k ≠ b → k ≠ it → wi.heap[k]? = wS.heap[k]?
theorem owns_move {w w' : World} {M n : Nat} {v : Value} {xs : List Value} (h : w.ownsRowF M 5 1 v n xs) (hk : ∀ g, v.ownBlock = some g → w'.heap[g]? = w.heap[g]?) : w'.ownsRowF M 5 1 v n xs := by
  refine ⟨h.1, ?_⟩
  rcases h.2 with hz | ⟨g, cap, cur, fz, hv, h1, h2, h3⟩
  · exact .inl hz
  · exact .inr ⟨g, cap, cur, fz, hv, h1, (hk g (by rw [hv]; rfl)).trans h2, h3⟩
theorem owns_lower {w : World} {M M' n : Nat} {v : Value} {xs : List Value} (h : w.ownsRowF M 5 1 v n xs) (hM : M' ≤ M) : w.ownsRowF M' 5 1 v n xs := by
  refine ⟨h.1, ?_⟩
  rcases h.2 with hz | ⟨g, cap, cur, fz, hv, h1, h3⟩
  · exact .inl hz
  · exact .inr ⟨g, cap, cur, fz, hv, Nat.le_trans hM h1, h3⟩
theorem BX.move {b M : Nat} {bs : List Value} {w w' : World} (h : BX b M bs w) (hb : w'.heap[b]? = w.heap[b]?) (hk : ∀ g, M ≤ g → g < w.heap.size → (∃ c fz, w.heap[g]? = some (.cells c 5 fz)) → w'.heap[g]? = w.heap[g]?) : BX b M bs w' := by
  obtain ⟨p, v, hp, hbk, hown, hbM⟩ := h
  exact ⟨p, v, hp, hb.trans hbk, owns_move hown (fun g hg => hk g (hown.lt g hg).1 (hown.lt g hg).2 (Lib.ownsRowF_kind hown g hg)), hbM⟩
theorem BX.is {b M : Nat} {bs : List Value} {w : World} (h : BX b M bs w) : Lib.IsBuilderF 71 5 b b bs w := by
  obtain ⟨p, v, hp, hbk, hown, hbM⟩ := h
  have hA : Lib.BuilderAtF 71 5 b b p bs w := ⟨Nat.le_refl b, v, hbk, owns_lower hown (Nat.le_of_lt hbM), bx_noblk hown hbM⟩
  rcases hp with rfl | rfl
  · exact .inl hA
  · exact .inr hA
theorem BX.iterAt {b M : Nat} {bs : List Value} {w : World} (h : BX b M bs w) {k : Nat} {s : ByteArray} {pos : Nat} (hk : RItAt w k s pos) (hkb : k ≠ b) (pos' : Nat) : BX b M bs (w.iterAt k s pos') := by
  refine h.move (Lib.iterAt_other w k b s pos' (Ne.symm hkb)) (fun g h1 h2 hc => Lib.iterAt_other w k g s pos' (fun e => ?_))
  subst e
  obtain ⟨c, fz, hc⟩ := hc
  rw [show w.heap[g]? = _ from hk] at hc
  cases hc
set_option maxHeartbeats 1000000 in
theorem string3 (b M N : Nat) (l : List UInt8) (w : World) (h : BX b M (Lib.byteCells l) w) (h0 : l ≠ []) (hN : ∀ p v, w.heap[b]? = some (.cells #[p, v] 71 (0, 0)) → ∀ g, v.ownBlock = some g → g < N) :
    Calls Tryd.prog 49 #[.pointer (some ⟨b, 0, none⟩)] w fun e w' => e = .returned (.string (By.ofL l)) ∧ ∃ g, M ≤ g ∧ g < N ∧ w'.heap.size = w.heap.size ∧ Below M w w' ∧ ∀ k, k ≠ g → w'.heap[k]? = w.heap[k]? := by
  obtain ⟨p, v, hp, hbk, hown, hbM⟩ := h
  rw [Lib.byteCells_length] at hown
  obtain ⟨g, cap, hv⟩ : ∃ g cap, v = .slice (some ⟨g, 0, none⟩) l.length cap := by
    rcases hown.2 with ⟨_, hz⟩ | ⟨g, cap, cur, fz, hv, _⟩
    · exact absurd (List.length_eq_zero_iff.1 hz) h0
    · exact ⟨g, cap, hv⟩
  subst hv
  exact (string2 b g cap M p l w hbk hown h0 hbM).mono (fun e w' ⟨h1, h2, h3, h4⟩ => ⟨h1, g, (hown.lt g rfl).1, hN _ _ hbk g rfl, h3, h2, h4⟩)
def RunI (a : ByteArray) (i : Nat) (q : UInt8 → Bool) (B0 : Nat) (w0 : World) (b it M : Nat) (wS : World) (v : Value) (wi : World) : Prop := ∃ t : Nat, v = .int .i64 ((i + t : Nat) : Int) ∧ i + t ≤ a.size ∧ Aside0 ((((By.bl a).drop i).take t).all q = true) ∧ Aside0 (RItAt wi it (a.extract i a.size) t) ∧ Aside0 (BX b M (Lib.byteCells (((By.bl a).drop i).take t)) wi) ∧ Aside0 (Below B0 w0 wi) ∧ Aside0 (FrR b it M wS wi) ∧ Aside0 (M ≤ wi.heap.size)
def RunE (a : ByteArray) (i : Nat) (q : UInt8 → Bool) (B0 : Nat) (w0 : World) (b it M : Nat) (wS : World) (v : Value) (wi : World) : Prop := ∃ t : Nat, v = .int .i64 ((i + t : Nat) : Int) ∧ i + t ≤ a.size ∧ Aside0 (((By.bl a).drop i).takeWhile q = ((By.bl a).drop i).take t ∧ ((By.bl a).drop i).dropWhile q = (By.bl a).drop (i + t)) ∧ Aside0 (BX b M (Lib.byteCells (((By.bl a).drop i).take t)) wi) ∧ Aside0 (Below B0 w0 wi) ∧ Aside0 (FrR b it M wS wi) ∧ Aside0 (M ≤ wi.heap.size)
theorem take_tw {q : UInt8 → Bool} : ∀ (x : List UInt8) (t : Nat), (x.take t).all q = true → (x.length ≤ t ∨ ∃ h : t < x.length, q (x[t]'h) = false) → x.takeWhile q = x.take t ∧ x.dropWhile q = x.drop t
  | [], t, _, _ => by simp
  | c :: x, 0, _, h2 => by
    rcases h2 with h2 | ⟨h, hc⟩
    · simp at h2
    · have hc' : ¬ q c = true := by simpa using hc
      rw [List.takeWhile_cons, List.dropWhile_cons, if_neg hc', if_neg hc']
      exact ⟨rfl, rfl⟩
  | c :: x, t + 1, h1, h2 => by
    simp only [List.take_succ_cons, List.all_cons, Bool.and_eq_true] at h1
    have := take_tw x t h1.2 (by
      rcases h2 with h2 | ⟨h, hc⟩
      · exact .inl (by simpa using h2)
      · exact .inr ⟨by simpa using h, by simpa using hc⟩)
    rw [List.takeWhile_cons, List.dropWhile_cons, if_pos h1.1, if_pos h1.1, this.1, this.2]
    exact ⟨rfl, rfl⟩
theorem drop_get (a : ByteArray) (i t : Nat) (h : i + t < a.size) : ∃ h2 : t < ((By.bl a).drop i).length, ((By.bl a).drop i)[t]'h2 = a[i + t]'h := by
  have h2 : t < ((By.bl a).drop i).length := by rw [List.length_drop, By.bl_length]; omega
  refine ⟨h2, ?_⟩
  rw [List.getElem_drop]
  rfl
theorem RunI.done {a : ByteArray} {i : Nat} {q : UInt8 → Bool} {B0 : Nat} {w0 : World} {b it M : Nat} {wS : World} {v : Value} {wi : World} (t : Nat) (h1 : v = .int .i64 ((i + t : Nat) : Int)) (h2 : i + t ≤ a.size) (h3 : Aside0 ((((By.bl a).drop i).take t).all q = true)) (h4 : a.size ≤ i + t ∨ ∃ h : i + t < a.size, q (a[i + t]'h) = false) (h5 : Aside0 (BX b M (Lib.byteCells (((By.bl a).drop i).take t)) wi)) (h6 : Aside0 (Below B0 w0 wi)) (h7 : Aside0 (FrR b it M wS wi)) (h8 : Aside0 (M ≤ wi.heap.size)) : RunE a i q B0 w0 b it M wS v wi := by
  have key := take_tw ((By.bl a).drop i) t h3.out (by
    rcases h4 with h4 | ⟨h, hc⟩
    · exact .inl (by rw [List.length_drop, By.bl_length]; omega)
    · obtain ⟨hh, e⟩ := drop_get a i t h
      exact .inr ⟨hh, by rw [e]; exact hc⟩)
  rw [List.drop_drop] at key
  exact ⟨t, h1, h2, ⟨key⟩, h5, h6, h7, h8⟩
theorem RunI.step {a : ByteArray} {i : Nat} {q : UInt8 → Bool} {B0 : Nat} {w0 : World} {b it M : Nat} {wS : World} {v : Value} {wj wk : World} (t : Nat) (h1 : v = .int .i64 ((i + t : Nat) : Int) → True) (h2 : i + t < a.size) (h3 : Aside0 ((((By.bl a).drop i).take t).all q = true)) (hq : q (a[i + t]'h2) = true) (hv : v = .int .i64 ((i + (t + 1) : Nat) : Int)) (h4 : RItAt wj it (a.extract i a.size) (t + 1)) (h5 : BX b M (Lib.byteCells (((By.bl a).drop i).take t) ++ [.int .u8 ((a[i + t]'h2).toNat : Int)]) wk) (h6 : Below B0 w0 wj) (h6' : Below b wj wk) (hB : B0 ≤ b) (h7 : FrR b it M wS wj) (h7' : FrB b M wj wk) (hit : it < M) (hitb : it ≠ b) (h8 : M ≤ wj.heap.size) : RunI a i q B0 w0 b it M wS v wk := by
  obtain ⟨hh, e⟩ := drop_get a i t h2
  have et : ((By.bl a).drop i).take (t + 1) = ((By.bl a).drop i).take t ++ [a[i + t]'h2] := by
    rw [List.take_succ_eq_append_getElem hh, e]
  refine ⟨t + 1, hv, by omega, ⟨?_⟩, ⟨(h7' it hit hitb).trans h4⟩, ⟨?_⟩, ⟨h6.trans (h6'.mono hB)⟩, ⟨fun k k1 k2 k3 => (h7' k k1 k2).trans (h7 k k1 k2 k3)⟩, ⟨Nat.le_trans h8 h6'.size⟩⟩
  · rw [et, List.all_append, h3.out]
    simp [hq]
  · rw [et, Lib.byteCells_append]
    exact h5
theorem rh_next (cls : Int → Bool) (hcls : ∀ c : Int, 128 ≤ c → cls c = false) (s : ByteArray) (pos : Nat) (w : World) (k : Nat) (hI : RItAt w k s pos) (h : pos < s.size) (hq : cls ((s[pos]'h).toNat : Int) = false) :
    ∃ (c : Int) (pos' : Nat), cls c = false ∧ ∀ ty, (Instr.next (.pointer (some ⟨k, 0, none⟩)) true ty).run Tryd.prog w = .ok (.tuple #[.bool true, .int .i64 (pos : Int), .int .i32 c]) (w.iterAt k s pos') := by
  by_cases ha : (s[pos]'h).toNat < 128
  · exact ⟨_, _, hq, fun ty => Lib.run_next_ascii_at w k s pos ty hI h ha⟩
  · exact ⟨_, _, hcls _ (by have := (decode_high s pos h (by omega)).1; omega), fun ty => Lib.run_next_any_at w k s pos ty hI h⟩
theorem rDig_high (c : Int) (h : 128 ≤ c) : rDig c = false := decide_eq_false (by omega)
theorem rLet_high (c : Int) (h : 128 ≤ c) : rLet c = false := decide_eq_false (by omega)
theorem dg_low {c : UInt8} (h : By.dg c = true) : c.toNat < 128 := by simp only [By.dg, decide_eq_true_eq] at h; omega
theorem lt_low {c : UInt8} (h : By.lt c = true) : c.toNat < 128 := by simp only [By.lt, decide_eq_true_eq] at h; omega
theorem ext_get (a : ByteArray) (i t : Nat) (h : i + t < a.size) (h2 : t < (a.extract i a.size).size) : (a.extract i a.size)[t]'h2 = a[i + t]'h := by
  simp [ByteArray.getElem_extract]
theorem ext_lt (a : ByteArray) (i t : Nat) (h : i + t < a.size) : t < (a.extract i a.size).size := by simp; omega
theorem rh_nextA (a : ByteArray) (i t : Nat) (h : i + t < a.size) (ha : (a[i + t]'h).toNat < 128) (w : World) (k : Nat) (hI : RItAt w k (a.extract i a.size) t) :
    ∀ ty, (Instr.next (.pointer (some ⟨k, 0, none⟩)) true ty).run Tryd.prog w = .ok (.tuple #[.bool true, .int .i64 (t : Int), .int .i32 ((a[i + t]'h).toNat : Int)]) (w.iterAt k (a.extract i a.size) (t + 1)) := fun ty => by
  have h2 := ext_lt a i t h
  have := Lib.run_next_ascii_at (P := Tryd.prog) w k (a.extract i a.size) t ty hI h2 (by rw [ext_get a i t h]; exact ha)
  rw [ext_get a i t h] at this
  exact this
theorem rh_nextN (cls : Int → Bool) (hcls : ∀ c : Int, 128 ≤ c → cls c = false) (a : ByteArray) (i t : Nat) (h : i + t < a.size) (hq : cls ((a[i + t]'h).toNat : Int) = false) (w : World) (k : Nat) (hI : RItAt w k (a.extract i a.size) t) :
    ∃ (c : Int) (pos' : Nat), cls c = false ∧ ∀ ty, (Instr.next (.pointer (some ⟨k, 0, none⟩)) true ty).run Tryd.prog w = .ok (.tuple #[.bool true, .int .i64 (t : Int), .int .i32 c]) (w.iterAt k (a.extract i a.size) pos') := by
  have h2 := ext_lt a i t h
  exact rh_next cls hcls _ t w k hI h2 (by rw [ext_get a i t h]; exact hq)
theorem rh_nextZ (a : ByteArray) (i t : Nat) (h : a.size ≤ i + t) (w : World) (k : Nat) (hI : RItAt w k (a.extract i a.size) t) :
    ∀ ty, (Instr.next (.pointer (some ⟨k, 0, none⟩)) true ty).run Tryd.prog w = .ok (.tuple #[.bool false]) w := fun ty => by
  have := Lib.run_next_end_at (P := Tryd.prog) w k (a.extract i a.size) t ty hI (by simp; omega)
  exact this
theorem bx_new {b M : Nat} {w : World} (h : w.heap[b]? = some (.cells #[.pointer none, .slice none 0 0] 71 (0, 0))) (hb : b < M) : BX b M (Lib.byteCells (List.take 0 [])) w :=
  ⟨.pointer none, .slice none 0 0, .inl rfl, h, World.ownsRowF_nil w M 5 1, hb⟩
/-- The world of two new builders and an iterator. -/
theorem ws_facts (B0 : Nat) (w0 wr WS : World) (s : ByteArray) (hB : Below B0 w0 wr) (hB0 : B0 ≤ wr.heap.size) (h : WS = ((wr.alloc (.cells #[.pointer none, .slice none 0 0] 71)).alloc (.cells #[.pointer none, .slice none 0 0] 71)).iter s 0) :
    BX wr.heap.size (wr.heap.size + 3) (Lib.byteCells []) WS ∧ WS.heap[wr.heap.size + 1]? = some (.cells #[.pointer none, .slice none 0 0] 71 (0, 0)) ∧ RItAt WS (wr.heap.size + 2) s 0 ∧ Below B0 w0 WS ∧ WS.heap.size = wr.heap.size + 3 := by
  have s1 : (wr.alloc (.cells #[.pointer none, .slice none 0 0] 71)).heap.size = wr.heap.size + 1 := by simp
  have s2 : ((wr.alloc (.cells #[.pointer none, .slice none 0 0] 71)).alloc (.cells #[.pointer none, .slice none 0 0] 71)).heap.size = wr.heap.size + 2 := by simp
  have h1 := blk_new wr (.cells #[.pointer none, .slice none 0 0] 71)
  have h2 := blk_new (wr.alloc (.cells #[.pointer none, .slice none 0 0] 71)) (.cells #[.pointer none, .slice none 0 0] 71)
  rw [s1] at h2
  have h3 := World.iter_heap ((wr.alloc (.cells #[.pointer none, .slice none 0 0] 71)).alloc (.cells #[.pointer none, .slice none 0 0] 71)) s 0
  rw [s2, ← h] at h3
  have e1 : WS.heap[wr.heap.size]? = some (.cells #[.pointer none, .slice none 0 0] 71 (0, 0)) := by rw [h]; exact blk_alloc (blk_alloc h1 _) _
  have e2 : WS.heap[wr.heap.size + 1]? = some (.cells #[.pointer none, .slice none 0 0] 71 (0, 0)) := by rw [h]; exact blk_alloc h2 _
  refine ⟨⟨.pointer none, .slice none 0 0, .inl rfl, e1, World.ownsRowF_nil _ _ _ _, by omega⟩, e2, h3, ?_, ?_⟩
  · rw [h]
    exact ((hB.alloc hB0 _).alloc (by rw [s1]; omega) _).alloc (by rw [s2]; omega) _
  · rw [h]
    show (((wr.alloc _).alloc _).alloc _).heap.size = _
    simp
theorem ws_iter (B0 : Nat) (w0 wr WS : World) (s : ByteArray) (hB : Below B0 w0 wr) (hB0 : B0 ≤ wr.heap.size) (h : WS = wr.iter s 0) :
    RItAt WS wr.heap.size s 0 ∧ Below B0 w0 WS ∧ WS.heap.size = wr.heap.size + 1 ∧ ∀ k, k < wr.heap.size → WS.heap[k]? = wr.heap[k]? := by
  have h3 := World.iter_heap wr s 0
  rw [← h] at h3
  refine ⟨h3, ?_, ?_, fun k hk => ?_⟩
  · rw [h]
    exact hB.alloc hB0 _
  · rw [h]
    show (wr.alloc _).heap.size = _
    simp
  · rw [h]
    exact Lib.alloc_old wr _ k hk
theorem BX.ltg {b M : Nat} {bs : List Value} {w : World} (h : BX b M bs w) : ∀ p v, w.heap[b]? = some (.cells #[p, v] 71 (0, 0)) → ∀ g, v.ownBlock = some g → g < w.heap.size := by
  intro p v hb g hg
  obtain ⟨p', v', hp, hbk, hown, hbM⟩ := h
  rw [hbk] at hb
  simp at hb
  obtain ⟨rfl, rfl⟩ := hb
  exact (hown.lt g hg).2
theorem run_first {q : UInt8 → Bool} (a : ByteArray) (i t : Nat) (hi : i < a.size) (h : ((By.bl a).drop i).takeWhile q = ((By.bl a).drop i).take t) (hq : q (a[i]'hi) = true) : 1 ≤ t ∧ ((By.bl a).drop i).take t ≠ [] := by
  have ex : (By.bl a).drop i = a[i]'hi :: (By.bl a).drop (i + 1) := List.drop_eq_getElem_cons _
  rw [ex, List.takeWhile_cons, if_pos hq] at h
  cases t with
  | zero => simp at h
  | succ t => exact ⟨by omega, by rw [ex]; simp⟩
theorem run_low {q : UInt8 → Bool} (hlow : ∀ c, q c = true → c.toNat < 128) (l : List UInt8) (t : Nat) (h : l.takeWhile q = l.take t) : ∀ c ∈ l.take t, c.toNat < 128 := by
  intro c hc
  rw [← h] at hc
  have := List.all_takeWhile (l := l) (p := q)
  exact hlow c (List.all_eq_true.1 this c hc)
theorem run_len (l : List UInt8) (i t : Nat) (h : i + t ≤ l.length) : ((l.drop i).take t).length = t := by
  rw [List.length_take, List.length_drop]
  omega
end Go.Proofs.YtciojhhncfnagaaDoor.Rh
