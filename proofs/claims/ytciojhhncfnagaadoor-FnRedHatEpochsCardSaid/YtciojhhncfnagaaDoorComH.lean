/- Red Hat: what the package's parser and comparison answer. -/
import Derived.Test.YtciojhhncfnagaaDoorZ3
import Derived.Test.YtciojhhncfnagaaDoorZ4
import Derived.Test.YtciojhhncfnagaaDoorZ5
import Derived.Test.YtciojhhncfnagaaDoorZ6
import Derived.Test.YtciojhhncfnagaaDoorZ7
import Derived.Test.YtciojhhncfnagaaDoorRk
import Derived.Test.YtciojhhncfnagaaDoorComK
namespace Go.Proofs.YtciojhhncfnagaaDoor.Com
open Go Go.RowKit Go.Proofs.YtciojhhncfnagaaDoor.Z Go.Proofs.YtciojhhncfnagaaDoor.Evs Go.Proofs.YtciojhhncfnagaaDoor.By Go.Proofs.YtciojhhncfnagaaDoor.Lx Go.Proofs.YtciojhhncfnagaaDoor.Rh Go.Proofs.YtciojhhncfnagaaDoor.Rk Go.Proofs.YtciojhhncfnagaaDoorW.PrintWords Go.Proofs.YtciojhhncfnagaaDoorW.PrintLast
set_option linter.unusedVariables false
set_option linter.unusedSimpArgs false

/-- How two parts compare. -/
def rhC (a b : List UInt8) : Int := lex (rhKT a) (rhKT b)
theorem rh_cmp (a b : List UInt8) (ha : a.length ≤ 1000000) (hb : b.length ≤ 1000000) : semantic_compareRedHatComponents.f (ofL a) (ofL b) = some (rhC a b) := by
  unfold semantic_compareRedHatComponents.f
  rw [ofL_size, ofL_size, decide_eq_true (by omega), decide_eq_true (by omega), bl_ofL, bl_ofL, rhTop_key]
  rfl
/-- Version and release. -/
def rhVR (e vr : List UInt8) : List UInt8 × List UInt8 × List UInt8 := (if e = [] then [48] else e, vr.takeWhile (· != 45), vr.dropWhile (· != 45))
/-- A version by its parts. -/
def rhParse (l : List UInt8) : List UInt8 × List UInt8 × List UInt8 :=
  if (cutB 58 l).2.2 && (cutB 58 l).1.all dg then rhVR (cutB 58 l).1 (cutB 58 l).2.1 else rhVR [] l
def ofL3 (p : List UInt8 × List UInt8 × List UInt8) : ByteArray × ByteArray × ByteArray := (ofL p.1, ofL p.2.1, ofL p.2.2)
theorem cutB_len (c : UInt8) (l : List UInt8) : (cutB c l).1.length ≤ l.length ∧ (cutB c l).2.1.length ≤ l.length := by
  have e := tw_dw c l
  have hl := congrArg List.length e
  rw [List.length_append] at hl
  unfold cutB
  cases hd : l.dropWhile (· != c) with
  | nil => exact ⟨Nat.le_refl _, Nat.zero_le _⟩
  | cons x r =>
    rw [hd, List.length_cons] at hl
    constructor
    · show (l.takeWhile (· != c)).length ≤ _
      omega
    · show r.length ≤ _
      omega
theorem dw_head (c : UInt8) (l : List UInt8) (x : UInt8) (r : List UInt8) (h : l.dropWhile (· != c) = x :: r) : x = c := by
  have := List.head_dropWhile_not (· != c) (l := l) (by rw [h]; simp)
  simpa [h] using this
theorem parseJ1 (e vr : List UInt8) (he : e.length ≤ 1000000) (hv : vr.length ≤ 1000000) : Ev (fun k => semantic_ParseRedHatVersion.j1 k (ofL e) (ofL vr)) (ofL3 (rhVR e vr)) := by
  have s45 : (⟨#[45]⟩ : ByteArray) = ofL [45] := rfl
  have s48 : (⟨#[48]⟩ : ByteArray) = ofL [48] := rfl
  refine Ev.step (fun _ => by rw [semantic_ParseRedHatVersion.j1, s45, s48]) (Ev.bind (zzCut_ev 45 vr (by omega)) ?_)
  have hl := (cutB_len 45 vr).2
  cases hd : vr.dropWhile (· != 45) with
  | nil =>
    have ec : cutB 45 vr = (vr, [], false) := by rw [cutB, hd]
    have et : vr.takeWhile (· != 45) = vr := by
      have := tw_dw 45 vr
      rw [hd, List.append_nil] at this
      exact this
    rw [ec]
    refine ev_f ?_
    rw [toList_ofL]
    by_cases h : e = []
    · refine ev_pos h (ev_now ?_)
      rw [rhVR, if_pos h, et, hd]
      rfl
    · refine ev_neg h (ev_now ?_)
      rw [rhVR, if_neg h, et, hd]
      rfl
  | cons x r =>
    have hx := dw_head 45 vr x r hd
    subst hx
    have ec : cutB 45 vr = (vr.takeWhile (· != 45), r, true) := by rw [cutB, hd]
    rw [ec] at hl ⊢
    have hl' : r.length ≤ vr.length := hl
    refine ev_t (ev_pos (by rw [ofL_size]; show 1 + r.length ≤ _; omega) ?_)
    rw [toList_ofL, ofL_append]
    by_cases h : e = []
    · refine ev_pos h (ev_now ?_)
      rw [rhVR, if_pos h, hd]
      rfl
    · refine ev_neg h (ev_now ?_)
      rw [rhVR, if_neg h, hd]
      rfl
theorem parse_ev (l : List UInt8) (hl : l.length ≤ 1000000) : Ev (fun k => semantic_ParseRedHatVersion.f k (ofL l)) (ofL3 (rhParse l)) := by
  have s58 : (⟨#[58]⟩ : ByteArray) = ofL [58] := rfl
  have s0 : (⟨#[]⟩ : ByteArray) = ofL [] := rfl
  unfold semantic_ParseRedHatVersion.f
  rw [s58]
  refine Ev.bind (zzCut_ev 58 l (by omega)) ?_
  have hc := cutB_len 58 l
  unfold rhParse
  cases hb : (cutB 58 l).2.2 with
  | false =>
    refine ev_f (Ev.step (fun _ => by rw [semantic_ParseRedHatVersion.j0, s0]) (ev_t ?_))
    exact parseJ1 [] l (by simp) hl
  | true =>
    have hod : semantic_isOnlyDigits.f (ofL (cutB 58 l).1) = some ((cutB 58 l).1.all dg) := by
      unfold semantic_isOnlyDigits.f
      rw [if_pos (by rw [ofL_size]; omega), bl_ofL]
    simp only [hod, Option.bind_some]
    refine ev_pos trivial ?_
    cases hd : (cutB 58 l).1.all dg with
    | false =>
      refine Ev.step (fun _ => by rw [Bool.not_false, semantic_ParseRedHatVersion.j0, s0]) (ev_t ?_)
      exact parseJ1 [] l (by simp) hl
    | true =>
      refine Ev.step (fun _ => by rw [Bool.not_true, semantic_ParseRedHatVersion.j0]) (ev_f ?_)
      exact parseJ1 _ _ (by omega) (by omega)
theorem rhVR_len (e vr : List UInt8) (n : Nat) (he : e.length ≤ n) (hv : vr.length ≤ n) (hn : 1 ≤ n) : (rhVR e vr).1.length ≤ n ∧ (rhVR e vr).2.1.length ≤ n ∧ (rhVR e vr).2.2.length ≤ n := by
  have h := congrArg List.length (tw_dw 45 vr)
  rw [List.length_append] at h
  unfold rhVR
  refine ⟨?_, ?_, ?_⟩
  · show (if e = [] then [48] else e).length ≤ n
    split
    · simpa using hn
    · exact he
  · show (vr.takeWhile (· != 45)).length ≤ n
    omega
  · show (vr.dropWhile (· != 45)).length ≤ n
    omega
theorem rhParse_len (l : List UInt8) (n : Nat) (hl : l.length ≤ n) (hn : 1 ≤ n) : (rhParse l).1.length ≤ n ∧ (rhParse l).2.1.length ≤ n ∧ (rhParse l).2.2.length ≤ n := by
  have hc := cutB_len 58 l
  unfold rhParse
  split
  · exact rhVR_len _ _ n (by omega) (by omega) hn
  · exact rhVR_len _ _ n (by simp) hl hn
/-- How two versions compare. -/
def rhV (a b : List UInt8) : Int := comb (rhC (rhParse a).1 (rhParse b).1) (comb (rhC (rhParse a).2.1 (rhParse b).2.1) (rhC (rhParse a).2.2 (rhParse b).2.2))
theorem compare3 (p q : List UInt8 × List UInt8 × List UInt8) (hp : p.1.length ≤ 1000000 ∧ p.2.1.length ≤ 1000000 ∧ p.2.2.length ≤ 1000000) (hq : q.1.length ≤ 1000000 ∧ q.2.1.length ≤ 1000000 ∧ q.2.2.length ≤ 1000000) :
    semantic_RedHatVersion_compare.f (ofL p.1) (ofL p.2.1) (ofL p.2.2) (ofL q.1) (ofL q.2.1) (ofL q.2.2) = some (comb (rhC p.1 q.1) (comb (rhC p.2.1 q.2.1) (rhC p.2.2 q.2.2))) := by
  unfold semantic_RedHatVersion_compare.f comb
  rw [rh_cmp _ _ hp.1 hq.1, rh_cmp _ _ hp.2.1 hq.2.1, rh_cmp _ _ hp.2.2 hq.2.2]
  simp only [Option.bind_some]
  by_cases h1 : rhC p.1 q.1 = 0
  · rw [if_pos h1, if_pos h1]
    by_cases h2 : rhC p.2.1 q.2.1 = 0
    · rw [if_pos h2, if_pos h2]
      split
      · rename_i h3
        rw [h3]
      · rfl
    · rw [if_neg h2, if_neg h2]
  · rw [if_neg h1, if_neg h1]
theorem rhCompare_ev (a b : List UInt8) (ha : a.length ≤ 100000) (hb : b.length ≤ 100000) : Ev (fun k => impl_RedHatCompare.f k (ofL a) (ofL b)) (rhV a b, true) := by
  unfold impl_RedHatCompare.f
  refine Ev.bind (parse_ev a (by omega)) (Ev.bind (parse_ev b (by omega)) ?_)
  have := compare3 (rhParse a) (rhParse b) (rhParse_len a 1000000 (by omega) (by omega)) (rhParse_len b 1000000 (by omega) (by omega))
  show Ev (fun _ => (semantic_RedHatVersion_compare.f (ofL (rhParse a).1) (ofL (rhParse a).2.1) (ofL (rhParse a).2.2) (ofL (rhParse b).1) (ofL (rhParse b).2.1) (ofL (rhParse b).2.2)).bind fun t => some (t, true)) _
  rw [this]
  exact ev_now rfl
end Go.Proofs.YtciojhhncfnagaaDoor.Com
