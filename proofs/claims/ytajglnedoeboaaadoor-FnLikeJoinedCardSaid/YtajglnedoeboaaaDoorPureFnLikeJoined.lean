/- FnLikeJoined: numbers with points between, and what stands behind them, are read as such again. No condition beyond the row's own. -/
import Derived.Test.YtajglnedoeboaaaDoorZ7
import Derived.Test.YtajglnedoeboaaaDoorComF
import Derived.Test.YtajglnedoeboaaaDoorComG
import Derived.Test.YtajglnedoeboaaaDoorComS
import Derived.Test.YtajglnedoeboaaaDoorComVl
namespace Go.Proofs.YtajglnedoeboaaaDoor.Pure
open Go.RowKit Go.Proofs.YtajglnedoeboaaaDoor.Z Go.Proofs.YtajglnedoeboaaaDoor.Evs Go.Proofs.YtajglnedoeboaaaDoor.By Go.Proofs.YtajglnedoeboaaaDoor.Com Go.Proofs.YtajglnedoeboaaaDoorW.PrintWords Go.Proofs.YtajglnedoeboaaaDoorW.PrintLast
set_option linter.unusedVariables false
set_option linter.unusedSimpArgs false

/-- Texts with points between. -/
def joinL : List (List UInt8) → List UInt8
  | [] => []
  | [x] => x
  | x :: y :: l => x ++ 46 :: joinL (y :: l)
theorem joinL_snoc : ∀ (l : List (List UInt8)) (x : List UInt8), l ≠ [] → joinL (l ++ [x]) = joinL l ++ 46 :: x
  | [], _, h => absurd rfl h
  | [y], x, _ => rfl
  | y :: z :: l, x, _ => by
    have ih := joinL_snoc (z :: l) x (by simp)
    show y ++ 46 :: joinL (z :: l ++ [x]) = (y ++ 46 :: joinL (z :: l)) ++ 46 :: x
    rw [ih]
    simp
theorem lk_digs : ∀ (D cur R : List UInt8), D.all dg = true → lkGo cur (D ++ R) = lkGo (cur ++ D) R
  | [], cur, R, _ => by rw [List.nil_append, List.append_nil]
  | c :: D, cur, R, h => by
    rw [List.all_cons, Bool.and_eq_true] at h
    rw [List.cons_append, lkGo, if_pos h.1, lk_digs D (cur ++ [c]) R h.2, List.append_assoc]
    rfl
theorem lk_join (R : List UInt8) : ∀ xs : List (List UInt8), xs ≠ [] → (∀ x ∈ xs, x.all dg = true ∧ x ≠ []) → lkGo [] (joinL xs ++ 45 :: R) = (xs.map Bv.decV, 45 :: R)
  | [], h, _ => absurd rfl h
  | [x], _, h => by
    obtain ⟨h1, h2⟩ := h x (by simp)
    show lkGo [] (x ++ 45 :: R) = _
    rw [lk_digs x [] _ h1, List.nil_append, lkGo, if_neg (by decide), if_neg (by decide), if_neg h2]
    rfl
  | x :: y :: l, _, h => by
    obtain ⟨h1, h2⟩ := h x (by simp)
    have ih := lk_join R (y :: l) (by simp) (fun z hz => h z (by simp [hz]))
    have e : joinL (x :: y :: l) ++ 45 :: R = x ++ (46 :: (joinL (y :: l) ++ 45 :: R)) := by
      show (x ++ 46 :: joinL (y :: l)) ++ 45 :: R = _
      simp
    rw [e, lk_digs x [] _ h1, List.nil_append, lkGo, if_neg (by decide), if_pos rfl, ih, if_neg h2]
    rfl
theorem join_len : ∀ xs : List (List UInt8), (∀ x ∈ xs, x.length ≤ 1500) → (joinL xs).length ≤ 1501 * xs.length
  | [], _ => by simp [joinL]
  | [x], h => by
    have := h x (by simp)
    show x.length ≤ _
    simp
    omega
  | x :: y :: l, h => by
    have h1 := h x (by simp)
    have ih := join_len (y :: l) (fun z hz => h z (by simp [hz]))
    show (x ++ 46 :: joinL (y :: l)).length ≤ _
    rw [List.length_append, List.length_cons]
    simp only [List.length_cons] at ih ⊢
    omega
theorem join_head : ∀ xs : List (List UInt8), xs ≠ [] → (∀ x ∈ xs, x.all dg = true ∧ x ≠ []) → ∃ c r, joinL xs = c :: r ∧ dg c = true
  | [], h, _ => absurd rfl h
  | [x], _, h => by
    obtain ⟨h1, h2⟩ := h x (by simp)
    cases x with
    | nil => exact absurd rfl h2
    | cons c r =>
      rw [List.all_cons, Bool.and_eq_true] at h1
      exact ⟨c, r, rfl, h1.1⟩
  | x :: y :: l, _, h => by
    obtain ⟨h1, h2⟩ := h x (by simp)
    cases x with
    | nil => exact absurd rfl h2
    | cons c r =>
      rw [List.all_cons, Bool.and_eq_true] at h1
      exact ⟨c, r ++ 46 :: joinL (y :: l), rfl, h1.1⟩
theorem dg_low {c : UInt8} (h : dg c = true) : c.toNat < 128 := by
  unfold dg at h
  have := of_decide_eq_true h
  omega
theorem join_low : ∀ xs : List (List UInt8), (∀ x ∈ xs, x.all dg = true) → ∀ c ∈ joinL xs, c.toNat < 128
  | [], _, c, hc => by simp [joinL] at hc
  | [x], h, c, hc => dg_low (List.all_eq_true.1 (h x (by simp)) c hc)
  | x :: y :: l, h, c, hc => by
    have hc : c ∈ x ++ 46 :: joinL (y :: l) := hc
    rcases List.mem_append.1 hc with hc | hc
    · exact dg_low (List.all_eq_true.1 (h x (by simp)) c hc)
    · rcases List.mem_cons.1 hc with rfl | hc
      · decide
      · exact join_low (y :: l) (fun z hz => h z (by simp [hz])) c hc
/-! what the parser tells -/
def plI (z : Int) : S28 := ⟨decide (z < 0), Ss.plainS z⟩
theorem plains_l (l : List Int) (hl : l.length ≤ 1000000) (d : Nat) : ∀ (i : Nat) (acc : List S28), i + d = l.length → acc.length ≤ i → Ev (fun k => impl_plains.l0 k acc (l.map plS) ((l.map plS).length : Int) (i : Int)) (acc ++ (l.drop i).map plI) := by
  induction d with
  | zero =>
    intro i acc h ha
    refine Ev.step (fun _ => by rw [impl_plains.l0]) (ev_neg (by rw [List.length_map]; omega) (ev_now ?_))
    rw [List.drop_of_length_le (by omega)]
    simp
  | succ d ih =>
    intro i acc h ha
    have hi : i < l.length := by omega
    have e : l.drop i = l[i] :: l.drop (i + 1) := List.drop_eq_getElem_cons hi
    have hr : rd_T77 (l.map plS) (i : Int) = plS l[i] := by
      unfold rd_T77
      rw [Int.toNat_natCast, List.getD_eq_getElem?_getD, List.getElem?_map, List.getElem?_eq_getElem hi]
      rfl
    have hw : wrap64 ((i : Int) + 1) = ((i + 1 : Nat) : Int) := wrap_nat (by omega)
    refine Ev.step (fun _ => by rw [impl_plains.l0, hr, hw]) (ev_pos (by rw [List.length_map]; omega) (ev_pos (by omega) (ev_pos (by rw [List.length_map]; omega) (ev_pos (by omega) ?_))))
    refine ev_eq (ih (i + 1) (acc ++ [plI l[i]]) (by omega) (by simp; omega)) ?_
    rw [e, List.map_cons, List.append_assoc]
    rfl
theorem likeParse_ev (s : List UInt8) (hs : s.length ≤ 300000) (ha : ∀ c ∈ s, c.toNat < 128) : Ev (fun k => impl_LikeParse.f k (ofL s)) (lkV (ofL s), (lkP (ofL s)).1.map plI, ofL (lkP (ofL s)).2, ofL s) := by
  have hz : semantic_ZZLikeParse.f (ofL s) = some (lkV (ofL s), (lkP (ofL s)).1.map plS, ofL (lkP (ofL s)).2, ofL s) := by
    unfold semantic_ZZLikeParse.f
    rw [if_pos ⟨by rw [ofL_size]; exact hs, List.all_eq_true.2 (fun c hc => decide_eq_true (ha c (by rw [bl_ofL] at hc; exact hc)))⟩]
  have hl : (lkP (ofL s)).1.length ≤ 1000000 := by
    have h1 := (lk_small (bl (lkL (ofL s))) [] rfl).2
    have h2 := lkL_size (ofL s)
    rw [bl_length] at h1
    rw [ofL_size] at h2
    show (lkGo [] (bl (lkL (ofL s)))).1.length ≤ _
    omega
  have hp := plains_l (lkP (ofL s)).1 hl (lkP (ofL s)).1.length 0 [] (by omega) (Nat.le_refl _)
  unfold impl_LikeParse.f
  rw [hz]
  refine ev_some ?_
  have hq : Ev (fun k => impl_plainLike.f k (lkV (ofL s)) ((lkP (ofL s)).1.map plS) (ofL (lkP (ofL s)).2) (ofL s)) (lkV (ofL s), (lkP (ofL s)).1.map plI, ofL (lkP (ofL s)).2, ofL s) := by
    unfold impl_plainLike.f
    refine Ev.bind ?_ (ev_now rfl)
    unfold impl_plains.f
    exact hp
  exact Ev.bind hq (ev_now rfl)
theorem ints_l (l : List S28) (hl : l.length ≤ 1000000) (d : Nat) : ∀ i : Nat, i + d = l.length → Ev (fun k => laws_ints.l0 k l l (l.length : Int) (i : Int)) true := by
  induction d with
  | zero =>
    intro i h
    exact Ev.step (fun _ => by rw [laws_ints.l0]) (ev_neg (by omega) (ev_now rfl))
  | succ d ih =>
    intro i h
    refine Ev.step (fun _ => by rw [laws_ints.l0, wrap_nat (by omega)]) (ev_pos (by omega) (ev_pos (by omega) (ev_pos (by omega) (ev_pos (by omega) (ev_neg (by simp) (ih (i + 1) (by omega)))))))
theorem ints_ev (l : List S28) (hl : l.length ≤ 1000000) : Ev (fun k => laws_ints.f k l l) true := by
  unfold laws_ints.f
  exact ev_pos rfl (ints_l l hl l.length 0 (by omega))
/-! the guard of what stands behind -/
theorem dotted_l (l : List UInt8) (hl : l.length ≤ 100000) (d : Nat) : ∀ (i : Nat) (st : Bool), i + d = l.length → (∀ c ∈ l.take i, c.toNat < 128) → ∃ r, Ev (fun k => laws_dotted.l0 k (ofL l) st (i : Int)) r ∧ (r = true → ∀ c ∈ l, c.toNat < 128) := by
  have hs := ofL_size l
  induction d with
  | zero =>
    intro i st h ha
    rw [List.take_of_length_le (by omega)] at ha
    exact ⟨!st, Ev.step (fun _ => by rw [laws_dotted.l0]) (ev_neg (by omega) (ev_now rfl)), fun _ => ha⟩
  | succ d ih =>
    intro i st h ha
    have hi : i < l.length := by omega
    have hc := bt_ofL l i hi
    have ext : l[i].toNat < 128 → ∀ c ∈ l.take (i + 1), c.toNat < 128 := fun hx c hcm => by
      rw [List.take_succ_eq_append_getElem hi] at hcm
      rcases List.mem_append.1 hcm with hcm | hcm
      · exact ha c hcm
      · have : c = l[i] := by simpa using hcm
        rw [this]
        exact hx
    have j : ∀ b : Bool, (b = true → l[i].toNat < 128) → ∃ r, Ev (fun k => laws_dotted.j1 k (ofL l) st (i : Int) (l[i].toNat : Int) b) r ∧ (r = true → ∀ c ∈ l, c.toNat < 128) := by
      intro b hb
      cases b with
      | true =>
        obtain ⟨r, h1, h2⟩ := ih (i + 1) false (by omega) (ext (hb rfl))
        exact ⟨r, Ev.step (fun _ => by rw [laws_dotted.j1, wrap_nat (by omega)]) (ev_t h1), h2⟩
      | false =>
        by_cases h46 : (l[i].toNat : Int) = 46
        · cases st with
          | true => exact ⟨false, Ev.step (fun _ => by rw [laws_dotted.j1]) (ev_f (ev_pos h46 (ev_t (ev_now rfl)))), by simp⟩
          | false =>
            obtain ⟨r, h1, h2⟩ := ih (i + 1) true (by omega) (ext (by omega))
            exact ⟨r, Ev.step (fun _ => by rw [laws_dotted.j1, wrap_nat (by omega)]) (ev_f (ev_pos h46 (ev_f h1))), h2⟩
        · exact ⟨false, Ev.step (fun _ => by rw [laws_dotted.j1]) (ev_f (ev_neg h46 (ev_now rfl))), by simp⟩
    have go : ∃ b : Bool, (b = true → l[i].toNat < 128) ∧ ∀ r, Ev (fun k => laws_dotted.j1 k (ofL l) st (i : Int) (l[i].toNat : Int) b) r → Ev (fun k => laws_dotted.l0 k (ofL l) st (i : Int)) r := by
      by_cases h1 : (l[i].toNat : Int) ≥ 48
      · by_cases h2 : (l[i].toNat : Int) ≤ 57
        · exact ⟨true, fun _ => by omega, fun r hr => Ev.step (fun _ => by rw [laws_dotted.l0, hc]) (ev_pos (by omega) (ev_pos (by omega) (ev_pos h1 (ev_pos h2 hr))))⟩
        · by_cases h3 : (l[i].toNat : Int) ≥ 97
          · by_cases h4 : (l[i].toNat : Int) ≤ 122
            · exact ⟨true, fun _ => by omega, fun r hr => Ev.step (fun _ => by rw [laws_dotted.l0, hc]) (ev_pos (by omega) (ev_pos (by omega) (ev_pos h1 (ev_neg h2 (ev_pos h3 (ev_pos h4 hr))))))⟩
            · exact ⟨decide ((l[i].toNat : Int) ≤ 90), fun hb => by have := of_decide_eq_true hb; omega, fun r hr => Ev.step (fun _ => by rw [laws_dotted.l0, hc]) (ev_pos (by omega) (ev_pos (by omega) (ev_pos h1 (ev_neg h2 (ev_pos h3 (ev_neg h4 (ev_pos (by omega) hr)))))))⟩
          · by_cases h5 : (l[i].toNat : Int) ≥ 65
            · exact ⟨decide ((l[i].toNat : Int) ≤ 90), fun hb => by have := of_decide_eq_true hb; omega, fun r hr => Ev.step (fun _ => by rw [laws_dotted.l0, hc]) (ev_pos (by omega) (ev_pos (by omega) (ev_pos h1 (ev_neg h2 (ev_neg h3 (ev_pos h5 hr))))))⟩
            · exact ⟨false, (fun hb => by cases hb), fun r hr => Ev.step (fun _ => by rw [laws_dotted.l0, hc]) (ev_pos (by omega) (ev_pos (by omega) (ev_pos h1 (ev_neg h2 (ev_neg h3 (ev_neg h5 hr))))))⟩
      · exact ⟨false, (fun hb => by cases hb), fun r hr => Ev.step (fun _ => by rw [laws_dotted.l0, hc]) (ev_pos (by omega) (ev_pos (by omega) (ev_neg h1 (ev_neg (by omega) (ev_neg (by omega) hr)))))⟩
    obtain ⟨b, hb, hg⟩ := go
    obtain ⟨r, h1, h2⟩ := j b hb
    exact ⟨r, hg r h1, h2⟩
/-! the numbers -/
theorem num_ev (x : List UInt8) (hx : x.length ≤ 1500) (h1 : x.all dg = true) (h2 : x ≠ []) : Ev (fun k => spec_Number.f k (ofL x)) ((plI (Bv.decV x)).f0, (plI (Bv.decV x)).f1, true) := by
  have hn := number_ev x (by omega)
  rw [numS_cvt, lk_cvt x h1 h2] at hn
  exact hn
theorem ofL_app3 (a b c : List UInt8) : (ofL a ++ ofL b) ++ ofL c = ofL (a ++ b ++ c) := by rw [ofL_append, ofL_append]
theorem law_l (xs : List (List UInt8)) (hn : xs ≠ []) (hl : xs.length ≤ 150) (hx : ∀ x ∈ xs, x.length ≤ 1500) (pre : List UInt8) (hp : pre.length ≤ 1500) (ha : ∀ c ∈ pre, c.toNat < 128) (v : Bool) (d : Nat) :
    ∀ i, i + d = xs.length → (∀ x ∈ xs.take i, x.all dg = true ∧ x ≠ []) → Ev (fun k => laws_FnLikeJoined.l0 k (ofL pre) v (ofL (joinL (xs.take i))) ((xs.take i).map fun x => plI (Bv.decV x)) (xs.map ofL) ((xs.map ofL).length : Int) (i : Int)) true := by
  have hm : (xs.map ofL).length = xs.length := List.length_map ..
  induction d with
  | zero =>
    intro i hi hd
    rw [List.take_of_length_le (by omega)] at hd ⊢
    have hjl := join_len xs hx
    have hjs : (joinL xs).length ≤ 225150 := by omega
    have hlow := join_low xs (fun x hxm => (hd x hxm).1)
    have hsz := ofL_size (joinL xs)
    have hps := ofL_size pre
    have fin : ∀ (t : List UInt8) (tb : ByteArray), tb = ofL t → t.length ≤ 250000 → (∀ c ∈ t, c.toNat < 128) → lkV (ofL t) = v → lkP (ofL t) = (xs.map Bv.decV, 45 :: pre) → Ev (fun k => impl_LikeParse.f k tb) (v, xs.map (fun x => plI (Bv.decV x)), ofL (45 :: pre), ofL t) := by
      intro t tb ht htl hta hv hP
      rw [ht]
      have h := likeParse_ev t (by omega) hta
      rw [hv, hP, List.map_map] at h
      exact h
    have b1 : (⟨#[45]⟩ : ByteArray) ++ ofL pre = ofL (45 :: pre) := ofL_append [45] pre
    cases v with
    | true =>
      have e1 : (((⟨#[118]⟩ : ByteArray) ++ ofL (joinL xs)) ++ (⟨#[45]⟩ : ByteArray)) ++ ofL pre = ofL (118 :: (joinL xs ++ 45 :: pre)) := by
        have q1 : (⟨#[118]⟩ : ByteArray) ++ ofL (joinL xs) = ofL ([118] ++ joinL xs) := ofL_append [118] _
        have q2 : ofL ([118] ++ joinL xs) ++ (⟨#[45]⟩ : ByteArray) = ofL (([118] ++ joinL xs) ++ [45]) := ofL_append _ [45]
        rw [q1, q2, ofL_append]
        simp
      have hL : bl (lkL (ofL (118 :: (joinL xs ++ 45 :: pre)))) = joinL xs ++ 45 :: pre := by
        rw [lkL_bl]
        rfl
      have hP : lkP (ofL (118 :: (joinL xs ++ 45 :: pre))) = (xs.map Bv.decV, 45 :: pre) := by
        unfold lkP
        rw [hL, lk_join pre xs hn hd]
      have hf := fin (118 :: (joinL xs ++ 45 :: pre)) _ e1 (by simp; omega) (fun c hc => by
        rcases List.mem_cons.1 hc with rfl | hc
        · decide
        · rcases List.mem_append.1 hc with hc | hc
          · exact hlow c hc
          · rcases List.mem_cons.1 hc with rfl | hc
            · decide
            · exact ha c hc) rfl hP
      have z1 : ((⟨#[118]⟩ : ByteArray) ++ ofL (joinL xs)).size = (joinL xs).length + 1 := by
        rw [ByteArray.size_append, hsz]
        show 1 + _ = _
        omega
      have z2 : (((⟨#[118]⟩ : ByteArray) ++ ofL (joinL xs)) ++ (⟨#[45]⟩ : ByteArray)).size = (joinL xs).length + 2 := by
        rw [ByteArray.size_append, z1]
        rfl
      have hi2 := ints_ev (xs.map fun x => plI (Bv.decV x)) (by rw [List.length_map]; omega)
      have z3 : (⟨#[45]⟩ : ByteArray).size = 1 := rfl
      refine Ev.step (fun _ => by rw [laws_FnLikeJoined.l0]) ?_
      refine ev_neg (by omega) (ev_t (ev_pos (by omega) (ev_pos (by omega) (ev_pos (by omega) (Ev.bind hf ?_)))))
      refine ev_pos (by rfl) (Ev.bind hi2 ?_)
      refine ev_t (ev_pos (by omega) (ev_pos (by rw [b1]) (ev_now ?_)))
      rw [e1]
      simp
    | false =>
      have e1 : (ofL (joinL xs) ++ (⟨#[45]⟩ : ByteArray)) ++ ofL pre = ofL (joinL xs ++ 45 :: pre) := by
        have q2 : ofL (joinL xs) ++ (⟨#[45]⟩ : ByteArray) = ofL (joinL xs ++ [45]) := ofL_append _ [45]
        rw [q2, ofL_append]
        simp
      obtain ⟨c, r, hcr, hdg⟩ := join_head xs hn hd
      have hpf : Lib.hasPrefix (joinL xs ++ 45 :: pre) [118] = false := by
        rw [hcr]
        have hne : ¬ 118 = c := fun e => by subst e; revert hdg; decide
        show ([118] : List UInt8).isPrefixOf (c :: (r ++ 45 :: pre)) = false
        simp [List.isPrefixOf, hne]
      have hL : bl (lkL (ofL (joinL xs ++ 45 :: pre))) = joinL xs ++ 45 :: pre := by
        rw [lkL_bl]
        show Lib.trimPrefix (joinL xs ++ 45 :: pre) [118] = _
        unfold Lib.trimPrefix
        rw [hpf]
        rfl
      have hP : lkP (ofL (joinL xs ++ 45 :: pre)) = (xs.map Bv.decV, 45 :: pre) := by
        unfold lkP
        rw [hL, lk_join pre xs hn hd]
      have hf := fin (joinL xs ++ 45 :: pre) _ e1 (by simp; omega) (fun c hc => by
        rcases List.mem_append.1 hc with hc | hc
        · exact hlow c hc
        · rcases List.mem_cons.1 hc with rfl | hc
          · decide
          · exact ha c hc) hpf hP
      have z2 : (ofL (joinL xs) ++ (⟨#[45]⟩ : ByteArray)).size = (joinL xs).length + 1 := by
        rw [ByteArray.size_append, hsz]
        rfl
      have hi2 := ints_ev (xs.map fun x => plI (Bv.decV x)) (by rw [List.length_map]; omega)
      refine Ev.step (fun _ => by rw [laws_FnLikeJoined.l0]) ?_
      refine ev_neg (by omega) (ev_f (ev_pos (by omega) (ev_pos (by omega) (Ev.bind hf ?_))))
      refine ev_pos (by rfl) (Ev.bind hi2 ?_)
      refine ev_t (ev_pos (by omega) (ev_pos (by rw [b1]) (ev_now ?_)))
      rw [e1]
      simp
  | succ d ih =>
    intro i hi hd
    have hil : i < xs.length := by omega
    have hr : rdOf ByteArray.empty (xs.map ofL) (i : Int) = ofL xs[i] := by
      rw [rdOf_nat, List.getD_eq_getElem?_getD, List.getElem?_map, List.getElem?_eq_getElem hil]
      rfl
    have hxi := hx _ (List.getElem_mem hil)
    have hdv := lawDigits_ev xs[i] (by omega)
    have hsz := ofL_size xs[i]
    have htk : xs.take (i + 1) = xs.take i ++ [xs[i]] := List.take_succ_eq_append_getElem hil
    have hjl := join_len (xs.take i) (fun x hxm => hx x (List.mem_of_mem_take hxm))
    have hjt : (xs.take i).length = i := by rw [List.length_take]; omega
    have hjz := ofL_size (joinL (xs.take i))
    have hml : ((xs.take i).map fun x => plI (Bv.decV x)).length = i := by rw [List.length_map, hjt]
    refine Ev.step (fun _ => by rw [laws_FnLikeJoined.l0, hr, wrap_nat (i := i) (by omega)]) ?_
    refine ev_pos (by omega) (ev_pos (by omega) (ev_pos (by omega) (Ev.bind hdv ?_)))
    cases hc : (xs[i].all dg && !xs[i].isEmpty) with
    | false => exact ev_f (ev_now rfl)
    | true =>
      rw [Bool.and_eq_true] at hc
      have hne : xs[i] ≠ [] := fun e => by rw [e] at hc; exact absurd hc.2 (by decide)
      have next := ih (i + 1) (by omega) (fun x hxm => by
        rw [htk] at hxm
        rcases List.mem_append.1 hxm with hxm | hxm
        · exact hd x hxm
        · have : x = xs[i] := by simpa using hxm
          rw [this]
          exact ⟨hc.1, hne⟩)
      have hnum := num_ev xs[i] hxi hc.1 hne
      rw [htk, List.map_append] at next
      refine ev_t ?_
      by_cases h0 : i = 0
      · have t0 : xs.take i = [] := by rw [h0]; rfl
        have e1 : ofL (joinL (xs.take i)) ++ ofL xs[i] = ofL (joinL (xs.take i ++ [xs[i]])) := by
          rw [t0, ofL_append]
          rfl
        refine ev_neg (by omega) (ev_pos (by omega) (Ev.bind hnum (ev_pos (by omega) ?_)))
        rw [e1]
        exact next
      · have hne2 : xs.take i ≠ [] := fun e => by rw [e] at hjt; simp at hjt; omega
        have q1 : ofL (joinL (xs.take i)) ++ (⟨#[46]⟩ : ByteArray) = ofL (joinL (xs.take i) ++ [46]) := ofL_append _ [46]
        have e1 : (ofL (joinL (xs.take i)) ++ (⟨#[46]⟩ : ByteArray)) ++ ofL xs[i] = ofL (joinL (xs.take i ++ [xs[i]])) := by
          rw [q1, ofL_append, joinL_snoc _ _ hne2]
          simp
        have z1 : (ofL (joinL (xs.take i)) ++ (⟨#[46]⟩ : ByteArray)).size = (joinL (xs.take i)).length + 1 := by
          rw [ByteArray.size_append, hjz]
          rfl
        refine ev_pos (by omega) (ev_pos (by omega) (ev_pos (by omega) (Ev.bind hnum (ev_pos (by omega) ?_))))
        rw [e1]
        exact next
theorem FnLikeJoined : laws_FnLikeJoined.Pure := by
  intro l pre v h0 h1
  refine Ev.rounds ?_
  unfold laws_FnLikeJoined.f
  have hl0 : l = (l.map bl).map ofL := by
    rw [List.map_map]
    conv => lhs; rw [← List.map_id l]
    apply List.map_congr_left
    intro x _
    exact (ofL_bl x).symm
  have skip0 : Ev (fun k => laws_FnLikeJoined.j0 k l pre v true) true := Ev.step (fun _ => by rw [laws_FnLikeJoined.j0]) (ev_t (ev_now rfl))
  have skip1 : Ev (fun k => laws_FnLikeJoined.j1 k l pre v true) true := Ev.step (fun _ => by rw [laws_FnLikeJoined.j1]) (ev_t (ev_now rfl))
  obtain ⟨b, hb⟩ := fits_ev l h0
  refine Ev.bind hb ?_
  cases b with
  | false => exact ev_f skip0
  | true =>
    refine ev_t ?_
    cases decide ((pre.size : Int) > 2147483647) with
    | true => exact skip0
    | false =>
      refine Ev.step (fun _ => by rw [laws_FnLikeJoined.j0]) (ev_f ?_)
      by_cases hbig : l.length = 9223372036854775807
      · obtain ⟨k, hk⟩ := hb.rounds
        unfold laws_zzFits1.f at hk
        rw [if_pos (by omega)] at hk
        cases hk
      · obtain ⟨r, hr, hq⟩ := short_ev l (by omega)
        refine Ev.bind hr ?_
        cases r with
        | false => exact ev_f skip1
        | true =>
          obtain ⟨hlen, hs⟩ := hq rfl
          obtain ⟨r2, hr2, hq2⟩ := short1 pre
          refine ev_t (Ev.bind hr2 ?_)
          cases r2 with
          | false => exact ev_f skip1
          | true =>
            have hp := hq2 rfl
            refine ev_t (ev_ite (fun _ => skip1) (fun hne => ?_))
            obtain ⟨r3, hr3, hq3⟩ := dotted_l (bl pre) (by rw [bl_length]; omega) (bl pre).length 0 true (by omega) (fun c hc => by simp at hc)
            rw [ofL_bl] at hr3
            refine Ev.bind hr3 ?_
            cases r3 with
            | false => exact skip1
            | true =>
              have hx : ∀ x ∈ l.map bl, x.length ≤ 1500 := by
                intro x hxm
                obtain ⟨y, hy, rfl⟩ := List.mem_map.1 hxm
                obtain ⟨j, hj, rfl⟩ := List.mem_iff_getElem.1 hy
                have := hs j hj
                rw [List.getD_eq_getElem?_getD, List.getElem?_eq_getElem hj] at this
                rw [bl_length]
                exact this
              have hlm : (l.map bl).length = l.length := List.length_map ..
              have h := law_l (l.map bl) (fun e => hne (by have := congrArg List.length e; rw [hlm] at this; simp at this; rw [this]; rfl)) (by omega) hx (bl pre) (by rw [bl_length]; exact hp) (hq3 rfl) v (l.map bl).length 0 (by omega) (fun x hxm => by simp at hxm)
              rw [ofL_bl, ← hl0] at h
              refine Ev.step (fun _ => by rw [laws_FnLikeJoined.j1]) ?_
              refine ev_neg (by decide) ?_
              exact h
end Go.Proofs.YtajglnedoeboaaaDoor.Pure
