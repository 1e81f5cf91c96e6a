/- Red Hat: what the package's functions answer, and the reference's: the same. -/
import Derived.Test.YtciojhhncfnagaaDoorZ3
import Derived.Test.YtciojhhncfnagaaDoorZ4
import Derived.Test.YtciojhhncfnagaaDoorZ5
import Derived.Test.YtciojhhncfnagaaDoorZ6
import Derived.Test.YtciojhhncfnagaaDoorZ7
import Derived.Test.YtciojhhncfnagaaDoorZ11
import Derived.Test.YtciojhhncfnagaaDoorZ15
import Derived.Test.YtciojhhncfnagaaDoorZ16
import Derived.Test.YtciojhhncfnagaaDoorRk
import Derived.Test.YtciojhhncfnagaaDoorComD
import Derived.Test.YtciojhhncfnagaaDoorComX
import Derived.Test.YtciojhhncfnagaaDoorComK
import Derived.Test.YtciojhhncfnagaaDoorComO
namespace Go.Proofs.YtciojhhncfnagaaDoor.Com
open Go Go.RowKit Go.Proofs.YtciojhhncfnagaaDoor.Z Go.Proofs.YtciojhhncfnagaaDoor.Evs Go.Proofs.YtciojhhncfnagaaDoor.By Go.Proofs.YtciojhhncfnagaaDoor.Lx Go.Proofs.YtciojhhncfnagaaDoor.Rh Go.Proofs.YtciojhhncfnagaaDoor.Rk Go.Proofs.YtciojhhncfnagaaDoorW.PrintWords Go.Proofs.YtciojhhncfnagaaDoorW.PrintLast
set_option linter.unusedVariables false
set_option linter.unusedSimpArgs false

/-- How two parts compare. -/
def rhC (a b : List UInt8) : Int := lex (rhKT a) (rhKT b)
theorem rh_cmp (a b : List UInt8) (ha : a.length ≤ 1000000) (hb : b.length ≤ 1000000) : semantic_compareRedHatComponents.f (ofL a) (ofL b) = some (rhC a b) := by
  unfold semantic_compareRedHatComponents.f
  rw [ofL_size, ofL_size, decide_eq_true (by omega), decide_eq_true (by omega), bl_ofL, bl_ofL, rhTop_key]
  rfl
theorem rh_parts (a b : List UInt8) (ha : a.length ≤ 1000000) (hb : b.length ≤ 1000000) : impl_RedHatParts.f (ofL a) (ofL b) = some (rhC a b) := by
  unfold impl_RedHatParts.f semantic_ZZRedHatParts.f
  rw [rh_cmp a b ha hb]
  rfl
/-- Version and release. -/
def rhVR (e vr : List UInt8) : List UInt8 × List UInt8 × List UInt8 := (if e = [] then [48] else e, vr.takeWhile (· != 45), vr.dropWhile (· != 45))
/-- A version by its parts. -/
def rhParse (l : List UInt8) : List UInt8 × List UInt8 × List UInt8 :=
  if (cutB 58 l).2.2 && (cutB 58 l).1.all dg then rhVR (cutB 58 l).1 (cutB 58 l).2.1 else rhVR [] l
def ofL3 (p : List UInt8 × List UInt8 × List UInt8) : ByteArray × ByteArray × ByteArray := (ofL p.1, ofL p.2.1, ofL p.2.2)
theorem cutB_len (c : UInt8) (l : List UInt8) : (cutB c l).1.length ≤ l.length ∧ (cutB c l).2.1.length ≤ l.length := by
  have e := tw_dw c l
  have hl := congrArg List.length e
  rw [List.length_append] at hl
  unfold cutB
  cases hd : l.dropWhile (· != c) with
  | nil => exact ⟨Nat.le_refl _, Nat.zero_le _⟩
  | cons x r =>
    rw [hd, List.length_cons] at hl
    constructor
    · show (l.takeWhile (· != c)).length ≤ _
      omega
    · show r.length ≤ _
      omega
theorem dw_head (c : UInt8) (l : List UInt8) (x : UInt8) (r : List UInt8) (h : l.dropWhile (· != c) = x :: r) : x = c := by
  have := List.head_dropWhile_not (· != c) (l := l) (by rw [h]; simp)
  simpa [h] using this
theorem parseJ1 (e vr : List UInt8) (he : e.length ≤ 1000000) (hv : vr.length ≤ 1000000) : Ev (fun k => semantic_ParseRedHatVersion.j1 k (ofL e) (ofL vr)) (ofL3 (rhVR e vr)) := by
  have s45 : (⟨#[45]⟩ : ByteArray) = ofL [45] := rfl
  have s48 : (⟨#[48]⟩ : ByteArray) = ofL [48] := rfl
  refine Ev.step (fun _ => by rw [semantic_ParseRedHatVersion.j1, s45, s48]) (Ev.bind (zzCut_ev 45 vr (by omega)) ?_)
  have hl := (cutB_len 45 vr).2
  cases hd : vr.dropWhile (· != 45) with
  | nil =>
    have ec : cutB 45 vr = (vr, [], false) := by rw [cutB, hd]
    have et : vr.takeWhile (· != 45) = vr := by
      have := tw_dw 45 vr
      rw [hd, List.append_nil] at this
      exact this
    rw [ec]
    refine ev_f ?_
    rw [toList_ofL]
    by_cases h : e = []
    · refine ev_pos h (ev_now ?_)
      rw [rhVR, if_pos h, et, hd]
      rfl
    · refine ev_neg h (ev_now ?_)
      rw [rhVR, if_neg h, et, hd]
      rfl
  | cons x r =>
    have hx := dw_head 45 vr x r hd
    subst hx
    have ec : cutB 45 vr = (vr.takeWhile (· != 45), r, true) := by rw [cutB, hd]
    rw [ec] at hl ⊢
    have hl' : r.length ≤ vr.length := hl
    refine ev_t (ev_pos (by rw [ofL_size]; show 1 + r.length ≤ _; omega) ?_)
    rw [toList_ofL, ofL_append]
    by_cases h : e = []
    · refine ev_pos h (ev_now ?_)
      rw [rhVR, if_pos h, hd]
      rfl
    · refine ev_neg h (ev_now ?_)
      rw [rhVR, if_neg h, hd]
      rfl
theorem parse_ev (l : List UInt8) (hl : l.length ≤ 1000000) : Ev (fun k => semantic_ParseRedHatVersion.f k (ofL l)) (ofL3 (rhParse l)) := by
  have s58 : (⟨#[58]⟩ : ByteArray) = ofL [58] := rfl
  have s0 : (⟨#[]⟩ : ByteArray) = ofL [] := rfl
  unfold semantic_ParseRedHatVersion.f
  rw [s58]
  refine Ev.bind (zzCut_ev 58 l (by omega)) ?_
  have hc := cutB_len 58 l
  unfold rhParse
  cases hb : (cutB 58 l).2.2 with
  | false =>
    refine ev_f (Ev.step (fun _ => by rw [semantic_ParseRedHatVersion.j0, s0]) (ev_t ?_))
    exact parseJ1 [] l (by simp) hl
  | true =>
    have hod : semantic_isOnlyDigits.f (ofL (cutB 58 l).1) = some ((cutB 58 l).1.all dg) := by
      unfold semantic_isOnlyDigits.f
      rw [if_pos (by rw [ofL_size]; omega), bl_ofL]
    simp only [hod, Option.bind_some]
    refine ev_pos trivial ?_
    cases hd : (cutB 58 l).1.all dg with
    | false =>
      refine Ev.step (fun _ => by rw [Bool.not_false, semantic_ParseRedHatVersion.j0, s0]) (ev_t ?_)
      exact parseJ1 [] l (by simp) hl
    | true =>
      refine Ev.step (fun _ => by rw [Bool.not_true, semantic_ParseRedHatVersion.j0]) (ev_f ?_)
      exact parseJ1 _ _ (by omega) (by omega)
theorem rhVR_len (e vr : List UInt8) (n : Nat) (he : e.length ≤ n) (hv : vr.length ≤ n) (hn : 1 ≤ n) : (rhVR e vr).1.length ≤ n ∧ (rhVR e vr).2.1.length ≤ n ∧ (rhVR e vr).2.2.length ≤ n := by
  have h := congrArg List.length (tw_dw 45 vr)
  rw [List.length_append] at h
  unfold rhVR
  refine ⟨?_, ?_, ?_⟩
  · show (if e = [] then [48] else e).length ≤ n
    split
    · simpa using hn
    · exact he
  · show (vr.takeWhile (· != 45)).length ≤ n
    omega
  · show (vr.dropWhile (· != 45)).length ≤ n
    omega
theorem rhParse_len (l : List UInt8) (n : Nat) (hl : l.length ≤ n) (hn : 1 ≤ n) : (rhParse l).1.length ≤ n ∧ (rhParse l).2.1.length ≤ n ∧ (rhParse l).2.2.length ≤ n := by
  have hc := cutB_len 58 l
  unfold rhParse
  split
  · exact rhVR_len _ _ n (by omega) (by omega) hn
  · exact rhVR_len _ _ n (by simp) hl hn
/-- How two versions compare. -/
def rhV (a b : List UInt8) : Int := comb (rhC (rhParse a).1 (rhParse b).1) (comb (rhC (rhParse a).2.1 (rhParse b).2.1) (rhC (rhParse a).2.2 (rhParse b).2.2))
theorem compare3 (p q : List UInt8 × List UInt8 × List UInt8) (hp : p.1.length ≤ 1000000 ∧ p.2.1.length ≤ 1000000 ∧ p.2.2.length ≤ 1000000) (hq : q.1.length ≤ 1000000 ∧ q.2.1.length ≤ 1000000 ∧ q.2.2.length ≤ 1000000) :
    semantic_RedHatVersion_compare.f (ofL p.1) (ofL p.2.1) (ofL p.2.2) (ofL q.1) (ofL q.2.1) (ofL q.2.2) = some (comb (rhC p.1 q.1) (comb (rhC p.2.1 q.2.1) (rhC p.2.2 q.2.2))) := by
  unfold semantic_RedHatVersion_compare.f comb
  rw [rh_cmp _ _ hp.1 hq.1, rh_cmp _ _ hp.2.1 hq.2.1, rh_cmp _ _ hp.2.2 hq.2.2]
  simp only [Option.bind_some]
  by_cases h1 : rhC p.1 q.1 = 0
  · rw [if_pos h1, if_pos h1]
    by_cases h2 : rhC p.2.1 q.2.1 = 0
    · rw [if_pos h2, if_pos h2]
      split
      · rename_i h3
        rw [h3]
      · rfl
    · rw [if_neg h2, if_neg h2]
  · rw [if_neg h1, if_neg h1]
theorem rhCompare_ev (a b : List UInt8) (ha : a.length ≤ 100000) (hb : b.length ≤ 100000) : Ev (fun k => impl_RedHatCompare.f k (ofL a) (ofL b)) (rhV a b, true) := by
  unfold impl_RedHatCompare.f
  refine Ev.bind (parse_ev a (by omega)) (Ev.bind (parse_ev b (by omega)) ?_)
  have := compare3 (rhParse a) (rhParse b) (rhParse_len a 1000000 (by omega) (by omega)) (rhParse_len b 1000000 (by omega) (by omega))
  show Ev (fun _ => (semantic_RedHatVersion_compare.f (ofL (rhParse a).1) (ofL (rhParse a).2.1) (ofL (rhParse a).2.2) (ofL (rhParse b).1) (ofL (rhParse b).2.1) (ofL (rhParse b).2.2)).bind fun t => some (t, true)) _
  rw [this]
  exact ev_now rfl
theorem rhText_ev (a b : List UInt8) (ha : a.length ≤ 100000) (hb : b.length ≤ 100000) : Ev (fun k => impl_RedHatCompareText.f k (ofL a) (ofL b)) (rhV a b, true) := by
  unfold impl_RedHatCompareText.f semantic_RedHatVersion_CompareStr.f
  have := compare3 (rhParse a) (rhParse b) (rhParse_len a 1000000 (by omega) (by omega)) (rhParse_len b 1000000 (by omega) (by omega))
  refine Ev.bind (parse_ev a (by omega)) (Ev.bind (Ev.bind (parse_ev b (by omega)) (r := (rhV a b, none)) ?_) (ev_t (ev_now rfl)))
  show Ev (fun _ => (semantic_RedHatVersion_compare.f (ofL (rhParse a).1) (ofL (rhParse a).2.1) (ofL (rhParse a).2.2) (ofL (rhParse b).1) (ofL (rhParse b).2.1) (ofL (rhParse b).2.2)).bind fun t => some (t, none)) _
  rw [this]
  exact ev_now rfl
/-! the reference -/
theorem isLetter_f (c : UInt8) : spec_isLetter.f (c.toNat : Int) = some (lt c) := by
  unfold spec_isLetter.f lt
  by_cases h : (c.toNat : Int) ≥ 97
  · rw [if_pos h]
    by_cases h2 : (c.toNat : Int) ≤ 122
    · rw [if_pos h2, decide_eq_true (by omega)]
    · rw [if_neg h2]
      by_cases h3 : (c.toNat : Int) ≥ 65
      · rw [if_pos h3]
        congr 1
        rw [decide_eq_decide]
        omega
      · omega
  · rw [if_neg h]
    by_cases h3 : (c.toNat : Int) ≥ 65
    · rw [if_pos h3]
      congr 1
      rw [decide_eq_decide]
      omega
    · rw [if_neg h3]
      congr 1
      symm
      rw [decide_eq_false_iff_not]
      omega
theorem c_eq (c d : UInt8) : ((c.toNat : Int) = (d.toNat : Int)) ↔ c = d := ⟨fun h => UInt8.toNat_inj.1 (by omega), fun h => by rw [h]⟩
theorem c126 (c : UInt8) : ((c.toNat : Int) = 126) ↔ c = 126 := c_eq c 126
theorem c94 (c : UInt8) : ((c.toNat : Int) = 94) ↔ c = 94 := c_eq c 94
theorem skip_ev : ∀ (l : List UInt8), l.length ≤ 1000000 → Ev (fun k => spec_rpmSkip.f k (ofL l)) (ofL (rhSkip l))
  | [], _ => Ev.step (fun _ => by rw [spec_rpmSkip.f, spec_rpmSkip.l0]) (ev_neg (by rw [ofL_size]; simp) (ev_now (show ofL [] = ofL (rhSkip []) from rfl)))
  | c :: l, h => by
    have hb : bt (ofL (c :: l)) 0 = (c.toNat : Int) := bt_ofL (c :: l) 0 (by simp)
    have hs := ofL_size (c :: l)
    have hl : (c :: l).length = l.length + 1 := rfl
    have ih := skip_ev l (by omega)
    refine Ev.step (fun _ => by rw [spec_rpmSkip.f, spec_rpmSkip.l0, hb, ext1, isDigit_f, isLetter_f]) (ev_pos (by omega) (ev_pos (by omega) ?_))
    simp only [Option.bind_some]
    have stay : rhTrim c = false → rhSkip (c :: l) = c :: l := fun h => by rw [rhSkip, List.dropWhile_cons, if_neg (by simp [h])]
    cases hd : dg c with
    | true =>
      rw [stay (by simp [rhTrim, hd])]
      exact ev_t (ev_now rfl)
    | false =>
      refine ev_f ?_
      cases hlt : lt c with
      | true =>
        rw [stay (by simp [rhTrim, hlt])]
        exact ev_t (ev_now rfl)
      | false =>
        refine ev_f ?_
        by_cases h1 : c = 126
        · rw [stay (by simp [rhTrim, h1])]
          exact ev_pos ((c126 c).2 h1) (ev_now rfl)
        · refine ev_neg (fun h => h1 ((c126 c).1 h)) ?_
          by_cases h2 : c = 94
          · rw [stay (by simp [rhTrim, h2])]
            exact ev_pos ((c94 c).2 h2) (ev_now rfl)
          · refine ev_neg (fun h => h2 ((c94 c).1 h)) (ev_pos (by omega) ?_)
            have ht : rhTrim c = true := by simp [rhTrim, hd, hlt, h1, h2]
            have : rhSkip (c :: l) = rhSkip l := by
              rw [rhSkip, List.dropWhile_cons, if_pos ht]
              rfl
            rw [this]
            exact ih
def markI : List UInt8 → Int
  | [] => 0
  | c :: _ => if c = 126 then -1 else if c = 94 then 1 else 2
theorem mark_f (l : List UInt8) (h : l.length ≤ 1000000) : spec_rpmMark.f (ofL l) = some (markI l) := by
  unfold spec_rpmMark.f
  cases l with
  | nil => rfl
  | cons c l =>
    have hb : bt (ofL (c :: l)) 0 = (c.toNat : Int) := bt_ofL (c :: l) 0 (by simp)
    have hs := ofL_size (c :: l)
    have hl : (c :: l).length = l.length + 1 := rfl
    rw [if_neg (by omega), if_pos (by omega), hb]
    rw [show markI (c :: l) = if c = 126 then -1 else if c = 94 then 1 else 2 from rfl]
    by_cases h1 : c = 126
    · rw [if_pos ((c126 c).2 h1), if_pos h1]
    · rw [if_neg (fun h => h1 ((c126 c).1 h)), if_neg h1]
      by_cases h2 : c = 94
      · rw [if_pos ((c94 c).2 h2), if_pos h2]
      · rw [if_neg (fun h => h2 ((c94 c).1 h)), if_neg h2]
theorem run_l (d : Bool) (l : List UInt8) (hl : l.length ≤ 1000000) (m : Nat) : ∀ i : Nat, i + m = l.length → (l.take i).all (rhCls d) = true → Ev (fun k => spec_rpmRun.l0 k (ofL l) d (i : Int)) (((l.takeWhile (rhCls d)).length : Nat) : Int) := by
  have hs := ofL_size l
  have done : ∀ i : Nat, i ≤ l.length → (l.take i).all (rhCls d) = true → (l.length ≤ i ∨ ∃ h : i < l.length, rhCls d (l[i]'h) = false) → (i : Int) = (((l.takeWhile (rhCls d)).length : Nat) : Int) := fun i hi h1 h2 => by
    rw [(take_tw l i h1 h2).1, List.length_take]
    omega
  induction m with
  | zero =>
    intro i h hp
    exact Ev.step (fun _ => by rw [spec_rpmRun.l0]) (ev_neg (by omega) (ev_now (done i (by omega) hp (.inl (by omega)))))
  | succ m ih =>
    intro i h hp
    have hi : i < l.length := by omega
    have hc := bt_ofL l i hi
    have nx : rhCls d l[i] = true → (l.take (i + 1)).all (rhCls d) = true := fun hq => by
      rw [List.take_succ_eq_append_getElem hi, List.all_append, hp]
      simp [hq]
    refine Ev.step (fun _ => by rw [spec_rpmRun.l0, hc, isDigit_f, isLetter_f, wrap_nat (by omega)]) (ev_pos (by omega) ?_)
    simp only [Option.bind_some]
    cases d with
    | true =>
      refine ev_t (ev_pos (by omega) ?_)
      cases hq : dg l[i] with
      | true => exact ev_t (ih (i + 1) (by omega) (nx hq))
      | false => exact ev_f (ev_now (done i (by omega) hp (.inr ⟨hi, hq⟩)))
    | false =>
      refine ev_f (ev_pos (by omega) ?_)
      cases hq : lt l[i] with
      | true => exact ev_t (ih (i + 1) (by omega) (nx hq))
      | false => exact ev_f (ev_now (done i (by omega) hp (.inr ⟨hi, hq⟩)))
theorem run_ev (d : Bool) (l : List UInt8) (hl : l.length ≤ 1000000) : Ev (fun k => spec_rpmRun.f k (ofL l) d) (((l.takeWhile (rhCls d)).length : Nat) : Int) := run_l d l hl l.length 0 (by omega) rfl
theorem cmpD_runs (x y : List UInt8) : cmpD x y = rhRuns true x y := by
  unfold cmpD rhRuns
  show (if (rhZ x).length = (rhZ y).length then Lib.compareBytes (rhZ x) (rhZ y) else cmpI ((rhZ x).length : Int) ((rhZ y).length : Int)) = _
  rw [if_pos rfl]
  unfold cmpI
  by_cases h1 : (rhZ y).length < (rhZ x).length
  · rw [if_neg (by omega), if_neg (by omega), if_pos (by omega), if_pos h1]
  · rw [if_neg h1]
    by_cases h2 : (rhZ x).length < (rhZ y).length
    · rw [if_neg (by omega), if_pos (by omega), if_pos h2]
    · rw [if_pos (by omega), if_neg h2]
def runsC (a b : List UInt8) (d : Bool) : Int × ByteArray × ByteArray := (rhRuns d (a.takeWhile (rhCls d)) (b.takeWhile (rhCls d)), ofL (a.dropWhile (rhCls d)), ofL (b.dropWhile (rhCls d)))
theorem ext_tw (l : List UInt8) (p : UInt8 → Bool) : (ofL l).extract 0 (((l.takeWhile p).length : Int)).toNat = ofL (l.takeWhile p) ∧ (ofL l).extract (((l.takeWhile p).length : Int)).toNat (ofL l).size = ofL (l.dropWhile p) := by
  have e := List.takeWhile_append_dropWhile (p := p) (l := l)
  rw [Int.toNat_natCast, ofL_extract, ofL_size, ofL_extract, List.take_length, List.drop_zero]
  constructor
  · congr 1
    conv => lhs; arg 2; rw [← e]
    rw [List.take_left]
  · congr 1
    conv => lhs; arg 2; rw [← e]
    rw [List.drop_left]
theorem runs_j1 (a b : List UInt8) (d : Bool) (ha : a.length ≤ 1000000) (hb : b.length ≤ 1000000) : Ev (fun k => spec_rpmRuns.j1 k (ofL a) (ofL b) d) (runsC a b d) := by
  have ta := congrArg List.length (List.takeWhile_append_dropWhile (p := rhCls d) (l := a))
  have tb := congrArg List.length (List.takeWhile_append_dropWhile (p := rhCls d) (l := b))
  rw [List.length_append] at ta tb
  have sa := ofL_size a
  have sb := ofL_size b
  refine Ev.step (fun _ => by rw [spec_rpmRuns.j1]) (Ev.bind (run_ev d a ha) (Ev.bind (run_ev d b hb) ?_))
  rw [(ext_tw a (rhCls d)).1, (ext_tw b (rhCls d)).1, (ext_tw a (rhCls d)).2, (ext_tw b (rhCls d)).2, order_f]
  simp only [Option.bind_some]
  refine ev_pos (by omega) (ev_pos (by omega) (ev_pos (by omega) (ev_pos (by omega) ?_)))
  cases d with
  | true => exact ev_t (Ev.bind (orderNumbers_ev _ _ (by omega) (by omega)) (ev_now (by rw [runsC, cmpD_runs])))
  | false => exact ev_f (ev_now (by rw [runsC, rhRuns, if_neg (by decide)]))
theorem runs_ev (c e : UInt8) (a b : List UInt8) (hc : rhTrim c = false) (he : rhTrim e = false) (c1 : c ≠ 126) (c2 : c ≠ 94) (e1 : e ≠ 126) (e2 : e ≠ 94) (ha : (c :: a).length ≤ 1000000) (hb : (e :: b).length ≤ 1000000) :
    Ev (fun k => spec_rpmRuns.f k (ofL (c :: a)) (ofL (e :: b))) (if dg c = dg e then runsC (c :: a) (e :: b) (dg c) else (if dg c then 1 else -1, ofL [], ofL [])) := by
  have b1 : bt (ofL (c :: a)) 0 = (c.toNat : Int) := bt_ofL (c :: a) 0 (by simp)
  have b2 : bt (ofL (e :: b)) 0 = (e.toNat : Int) := bt_ofL (e :: b) 0 (by simp)
  have s1 := ofL_size (c :: a)
  have s2 := ofL_size (e :: b)
  have l1 : (c :: a).length = a.length + 1 := rfl
  have l2 : (e :: b).length = b.length + 1 := rfl
  unfold spec_rpmRuns.f
  rw [b1, b2, isDigit_f, isDigit_f]
  simp only [Option.bind_some]
  refine ev_pos (by omega) ?_
  cases hd : dg c with
  | true =>
    refine ev_t (ev_pos (by omega) ?_)
    cases he : dg e with
    | true =>
      rw [if_pos rfl]
      refine Ev.step (fun _ => by rw [Bool.not_true, spec_rpmRuns.j0]) ?_
      exact ev_f (ev_t (runs_j1 _ _ true ha hb))
    | false =>
      rw [if_neg (by decide)]
      refine Ev.step (fun _ => by rw [Bool.not_false, spec_rpmRuns.j0]) ?_
      exact ev_t (ev_now rfl)
  | false =>
    refine ev_f (Ev.step (fun _ => by rw [spec_rpmRuns.j0, b2, isDigit_f]) (ev_f (ev_f (ev_pos (by omega) ?_))))
    simp only [Option.bind_some]
    cases he : dg e with
    | true =>
      rw [if_neg (by decide)]
      exact ev_t (ev_now rfl)
    | false =>
      rw [if_pos rfl]
      exact ev_f (runs_j1 _ _ false ha hb)
theorem parts_l : ∀ (n : Nat) (a b : List UInt8), a.length + b.length < n → a.length ≤ 1000000 → b.length ≤ 1000000 → Ev (fun k => spec_RedHatParts.l0 k (ofL a) (ofL b)) (lex (rhK a) (rhK b))
  | 0, _, _, h, _, _ => by omega
  | n + 1, a, b, h, ha, hb => by
    have la := rhSkip_len a
    have lb := rhSkip_len b
    refine Ev.step (fun _ => by rw [spec_RedHatParts.l0]) (Ev.bind (skip_ev a ha) (Ev.bind (skip_ev b hb) ?_))
    rw [mark_f _ (by omega), mark_f _ (by omega)]
    simp only [Option.bind_some]
    rw [orderI_f]
    simp only [Option.bind_some]
    have hk := rhL_key (n + 1) a b (by omega)
    rw [← hk, rhL]
    have stop : ∀ (x y : List UInt8) (u : Int) (v : Int) (r : Int), u = r → Ev (fun k => spec_RedHatParts.j2 k (ofL x) (ofL y) v u true) r := fun x y u v r e => Ev.step (fun _ => by rw [spec_RedHatParts.j2]) (ev_t (ev_now e))
    cases hsa : rhSkip a with
    | nil =>
      cases hsb : rhSkip b with
      | nil => exact ev_pos rfl (stop _ _ _ _ _ rfl)
      | cons e s =>
        by_cases h1 : e = 126
        · subst h1
          exact ev_neg (by simp [markI, cmpI]) (stop _ _ _ _ _ rfl)
        · by_cases h2 : e = 94
          · subst h2
            exact ev_neg (by simp [markI, cmpI]) (stop _ _ _ _ _ rfl)
          · simp only [markI, if_neg h1, if_neg h2]
            exact ev_neg (by simp [markI, cmpI]) (stop _ _ _ _ _ rfl)
    | cons c r =>
      rw [hsa] at la
      simp only [List.length_cons] at la
      cases hsb : rhSkip b with
      | nil =>
        by_cases h1 : c = 126
        · subst h1
          exact ev_neg (by simp [markI, cmpI]) (stop _ _ _ _ _ rfl)
        · by_cases h2 : c = 94
          · subst h2
            exact ev_neg (by simp [markI, cmpI]) (stop _ _ _ _ _ rfl)
          · simp only [markI, if_neg h1, if_neg h2]
            exact ev_neg (by simp [markI, cmpI]) (stop _ _ _ _ _ rfl)
      | cons e s =>
        rw [hsb] at lb
        simp only [List.length_cons] at lb
        have sc : (ofL (c :: r)).size = r.length + 1 := ofL_size _
        have se : (ofL (e :: s)).size = s.length + 1 := ofL_size _
        have next : ∀ v : Int, v < 2 → v ≠ 0 → Ev (fun k => spec_RedHatParts.j2 k (ofL (c :: r)) (ofL (e :: s)) v 0 (v == 0)) (rhL n r s) := fun v h1 h2 => by
          have hv : (v == 0) = false := beq_eq_false_iff_ne.2 h2
          rw [hv]
          refine Ev.step (fun _ => by rw [spec_RedHatParts.j2, ext1, ext1]) (ev_f (ev_pos h1 (ev_pos (by omega) (ev_pos (by omega) ?_))))
          have := parts_l n r s (by omega) (by omega) (by omega)
          rwa [rhL_key n r s (by omega)]
        by_cases h1 : c = 126
        · by_cases g1 : e = 126
          · subst h1
            subst g1
            exact ev_pos (by simp [markI, cmpI]) (next (-1) (by omega) (by omega))
          · by_cases g2 : e = 94
            · subst h1
              subst g2
              exact ev_neg (by simp [markI, cmpI]) (stop _ _ _ _ _ rfl)
            · simp only [markI, if_pos h1, if_neg g1, if_neg g2]
              exact ev_neg (by simp [markI, cmpI]) (stop _ _ _ _ _ rfl)
        · by_cases g1 : e = 126
          · by_cases h2 : c = 94
            · subst h2
              subst g1
              exact ev_neg (by simp [markI, cmpI]) (stop _ _ _ _ _ rfl)
            · simp only [markI, if_neg h1, if_neg h2, if_pos g1]
              exact ev_neg (by simp [markI, cmpI]) (stop _ _ _ _ _ rfl)
          · by_cases h2 : c = 94
            · by_cases g2 : e = 94
              · subst h2
                subst g2
                exact ev_pos (by simp [markI, cmpI]) (next 1 (by omega) (by omega))
              · simp only [markI, if_neg h1, if_neg g1, if_pos h2, if_neg g2]
                exact ev_neg (by simp [markI, cmpI]) (stop _ _ _ _ _ rfl)
            · by_cases g2 : e = 94
              · simp only [markI, if_neg h1, if_neg g1, if_neg h2, if_pos g2]
                exact ev_neg (by simp [markI, cmpI]) (stop _ _ _ _ _ rfl)
              · simp only [markI, if_neg h1, if_neg g1, if_neg h2, if_neg g2]
                refine ev_pos (by decide) ?_
                have hc := rhSkip_head hsa
                have he := rhSkip_head hsb
                refine Ev.step (fun _ => by rw [spec_RedHatParts.j2, show ((2 : Int) == 0) = false from rfl]) ?_
                refine ev_f (ev_neg (by decide) (Ev.bind (runs_ev c e r s hc he h1 h2 g1 g2 (by simp only [List.length_cons]; omega) (by simp only [List.length_cons]; omega)) ?_))
                have kc := cls_of hc h1 h2
                have ke := cls_of he g1 g2
                by_cases hd : dg c = dg e
                · rw [← hd] at ke
                  rw [if_pos hd, if_neg (tw_ne ke)]
                  have l1 := dw_len (a := r) kc
                  have l2 := dw_len (a := s) ke
                  have nx := parts_l n ((c :: r).dropWhile (rhCls (dg c))) ((e :: s).dropWhile (rhCls (dg c))) (by omega) (by omega) (by omega)
                  rw [← rhL_key n _ _ (by omega)] at nx
                  show Ev (fun k => if (runsC (c :: r) (e :: s) (dg c)).1 = 0 then _ else _) _
                  by_cases hz : rhRuns (dg c) ((c :: r).takeWhile (rhCls (dg c))) ((e :: s).takeWhile (rhCls (dg c))) = 0
                  · rw [if_neg (by simpa using hz)]
                    exact ev_pos hz nx
                  · rw [if_pos hz]
                    exact ev_neg hz (ev_now rfl)
                · have kn : rhCls (dg c) e = false := by
                    cases h1 : dg c with
                    | true =>
                      have : dg e = false := by cases h2 : dg e with
                        | true => exact absurd (h1.trans h2.symm) hd
                        | false => rfl
                      simp [rhCls, this]
                    | false =>
                      have : dg e = true := by cases h2 : dg e with
                        | true => rfl
                        | false => exact absurd (h1.trans h2.symm) hd
                      simp [rhCls, dg_lt this]
                  rw [if_neg hd, if_pos (tw_nil kn)]
                  cases dg c with
                  | true => exact ev_neg (by decide) (ev_now rfl)
                  | false => exact ev_neg (by decide) (ev_now rfl)
theorem specParts_ev (a b : List UInt8) (ha : a.length ≤ 1000000) (hb : b.length ≤ 1000000) : Ev (fun k => spec_RedHatParts.f k (ofL a) (ofL b)) (rhC a b) := by
  unfold spec_RedHatParts.f rhC
  rw [toList_ofL, toList_ofL, ← rhTop_key]
  have one : (a = [] ∨ b = []) → Ev (fun k => spec_RedHatParts.j0 k (ofL a) (ofL b) true) (rhTop a b) := fun h => by
    refine Ev.step (fun _ => by rw [spec_RedHatParts.j0, ofL_size, ofL_size, orderI_f]) ?_
    refine ev_t ?_
    refine ev_now ?_
    unfold cmpI rhTop
    cases a with
    | nil => cases b with
      | nil => rfl
      | cons d b =>
        have hl : (d :: b).length = b.length + 1 := rfl
        have h0 : ([] : List UInt8).length = 0 := rfl
        rw [if_pos (by omega), if_pos (by omega)]
    | cons c a => cases b with
      | nil =>
        have hl : (c :: a).length = a.length + 1 := rfl
        have h0 : ([] : List UInt8).length = 0 := rfl
        rw [if_neg (by omega), if_pos (by omega), if_neg (by omega), if_pos (by omega)]
      | cons d b => simp at h
  by_cases h : a = []
  · exact ev_pos h (one (.inl h))
  · refine ev_neg h ?_
    cases hb0 : b.isEmpty with
    | true => exact one (.inr (List.isEmpty_iff.1 hb0))
    | false =>
      have hbn : b ≠ [] := fun e => by rw [e] at hb0; cases hb0
      refine Ev.step (fun _ => by rw [spec_RedHatParts.j0]) (ev_f ?_)
      have := parts_l (a.length + b.length + 1) a b (by omega) ha hb
      rw [rhTop, if_neg (by rw [List.length_eq_zero_iff]; exact fun hh => h hh.1), if_neg (by rw [List.length_eq_zero_iff, List.length_eq_zero_iff]; exact fun hh => hbn hh.2), rhL_key _ _ _ (by omega)]
      exact this
end Go.Proofs.YtciojhhncfnagaaDoor.Com
