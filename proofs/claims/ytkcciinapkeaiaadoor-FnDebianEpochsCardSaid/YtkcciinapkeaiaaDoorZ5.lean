-- Written by a program of this session (myprint.py).
import Derived.Test.YtkcciinapkeaiaaDoorZ0
import Derived.Test.YtkcciinapkeaiaaDoorSsC
import Derived.Test.YtkcciinapkeaiaaDoorBn
import Derived.Test.YtkcciinapkeaiaaDoorBv
import Derived.Test.YtkcciinapkeaiaaDoorBy
import Derived.Test.YtkcciinapkeaiaaDoorShelf
import Derived.Shelf.GgClosure.StringsIndexFuncTop
import Derived.Laws.RangeString
import Derived.BigQuiet
import Derived.Deep.QuietTactic
import Derived.Test.YtkcciinapkeaiaaDoorGe
namespace Go.Proofs.YtkcciinapkeaiaaDoor.Z
open Go.Proofs.YtkcciinapkeaiaaDoor.Gw
open Go.RowKit Go.Proofs.YtkcciinapkeaiaaDoorW.PrintWords Go.Proofs.YtkcciinapkeaiaaDoorW.PrintLast Go.Proofs.YtkcciinapkeaiaaDoorW.PrintMore
attribute [local go_sem high] Go.Proofs.YtkcciinapkeaiaaDoor.Ge.gtr_str
attribute [local go_sem] max2_int min2_int max_two min_two max_three min_three max_four min_four   -- for this text's walks alone
set_option linter.unusedVariables false
set_option linter.unusedSimpArgs false

-- PLUGGED semantic_splitDebianDigitPrefix: function 64 (a text of this session)
/-! a part of a Debian version: what stands ahead of digits, the digits, the rest -/
def dbN (l : List UInt8) : List UInt8 := l.takeWhile (fun c => !By.dg c)
def dbX (l : List UInt8) : List UInt8 := l.dropWhile (fun c => !By.dg c)
def dbD (l : List UInt8) : List UInt8 := (dbX l).takeWhile By.dg
def dbT (l : List UInt8) : List UInt8 := (dbX l).dropWhile By.dg
/-- Where a byte stands: a tilde ahead of the end (0), letters ahead of all else. -/
def dbw (c : UInt8) : Int := if c = 126 then -1 else if By.lt c = true then (c.toNat : Int) - 2 else (c.toNat : Int) + 120
/-- Two lists of numbers, one place after the other; behind the end 0. -/
def wF : Nat → List Int → List Int → Int
  | 0, _, _ => 0
  | d + 1, a, b => if Bn.cmpZ (a.headD 0) (b.headD 0) = 0 then wF d a.tail b.tail else Bn.cmpZ (a.headD 0) (b.headD 0)
def dbC (a b : List UInt8) : Int := wF (max a.length b.length) (a.map dbw) (b.map dbw)
/-- How two parts of Debian versions compare (d: how often). -/
def dbF : Nat → List UInt8 → List UInt8 → Int
  | 0, _, _ => 0
  | d + 1, a, b => if a = [] ∧ b = [] then 0 else if dbC (dbN a) (dbN b) = 0 then (if Bn.cmpZ (Bv.decV (dbD a)) (Bv.decV (dbD b)) = 0 then dbF d (dbT a) (dbT b) else Bn.cmpZ (Bv.decV (dbD a)) (Bv.decV (dbD b))) else dbC (dbN a) (dbN b)
def dbP (a b : List UInt8) : Int := dbF (a.length + b.length) a b
theorem dbX_all (l : List UInt8) : dbN l ++ dbX l = l := List.takeWhile_append_dropWhile
theorem dbD_all (l : List UInt8) : dbD l ++ dbT l = dbX l := List.takeWhile_append_dropWhile
theorem dbT_less {l : List UInt8} (h : l ≠ []) : (dbT l).length < l.length := by
  have h1 := congrArg List.length (dbX_all l)
  have h2 := congrArg List.length (dbD_all l)
  rw [List.length_append] at h1 h2
  cases l with
  | nil => exact absurd rfl h
  | cons c r =>
    by_cases hc : By.dg c = true
    · have e1 : dbX (c :: r) = c :: r := by unfold dbX; rw [List.dropWhile_cons, if_neg (by simp [hc])]
      have e2 : 0 < (dbD (c :: r)).length := by unfold dbD; rw [e1, List.takeWhile_cons, if_pos hc]; simp
      omega
    · have e1 : 0 < (dbN (c :: r)).length := by unfold dbN; rw [List.takeWhile_cons, if_pos (by simp [hc])]; simp
      omega
theorem dbT_le (l : List UInt8) : (dbT l).length ≤ l.length := by
  have h1 := congrArg List.length (dbX_all l)
  have h2 := congrArg List.length (dbD_all l)
  rw [List.length_append] at h1 h2
  omega
/-! the digits ahead -/
def dbQ (r : Nat) : Bool := decide (r < 48) || decide (57 < r)
theorem db_pred (w : World) : PredAt Tryd.prog 79 #[] encR dbQ w := fun W r _ => by
  unfold FnGives dbQ
  by_cases h1 : r < 48 <;> by_cases h2 : 57 < r
  all_goals
    have z1 : (r : Int) < 48 ↔ r < 48 := by omega
    have z2 : (r : Int) > 57 ↔ 57 < r := by omega
    have z3 : (57 : Int) < (r : Int) ↔ 57 < r := by omega
    go_enter Tryd.func79, Tryd.ntmps79
    go_wp2
    all_goals first | (exfalso; omega) | (go_ret; exact ⟨by simp [h1, h2], 0, rfl⟩)
theorem tw_mem (p : UInt8 → Bool) : ∀ (l : List UInt8) (x : UInt8), x ∈ l.takeWhile p → p x = true
  | [], x, h => by simp at h
  | c :: r, x, h => by
    rw [List.takeWhile_cons] at h
    split at h
    · rename_i hc
      rcases List.mem_cons.1 h with rfl | h
      · exact hc
      · exact tw_mem p r x h
    · simp at h
def ndI (l : List UInt8) : Int := if l.dropWhile By.dg = [] then -1 else ((l.takeWhile By.dg).length : Int)
theorem dg_dbQ (c : UInt8) : dbQ c.toNat = !By.dg c := by
  unfold dbQ By.dg
  by_cases h1 : 48 ≤ c.toNat <;> by_cases h2 : c.toNat ≤ 57 <;> simp [h1, h2] <;> omega
theorem idx_nd (l : List UInt8) (ha : ∀ c ∈ l, c.toNat < 128) (d : Nat) : ∀ i : Nat, i + d = l.length → (∀ x ∈ l.take i, By.dg x = true) → Lib.idxFuncFrom dbQ true (By.ofL l) d i = ndI l := by
  induction d with
  | zero =>
    intro i h hp
    have e : l.dropWhile By.dg = [] := by
      rw [List.take_of_length_le (by omega)] at hp
      have hc := List.takeWhile_append_dropWhile (p := By.dg) (l := l)
      cases hq : l.dropWhile By.dg with
      | nil => rfl
      | cons x r =>
        have h1 := List.head?_dropWhile_not By.dg l
        rw [hq] at h1
        have h2 := hp x (by rw [← hc, hq]; simp)
        simp [h2] at h1
    rw [ndI, if_pos e]
    rfl
  | succ d ih =>
    intro i h hp
    have hi : i < l.length := by omega
    have hs : i < (By.ofL l).size := by rw [By.ofL_size]; exact hi
    have hd : Utf8.decode (By.ofL l) i = ((l[i]'hi).toNat, 1) := decode_ascii (By.ofL l) i hs (ha _ (List.getElem_mem hi))
    rw [Lib.idxFuncFrom, if_pos hs, hd]
    show (if dbQ (l[i]'hi).toNat = true then (i : Int) else Lib.idxFuncFrom dbQ true (By.ofL l) d (i + 1)) = ndI l
    rw [dg_dbQ]
    have e := List.take_append_drop i l
    have e2 : l.drop i = (l[i]'hi) :: l.drop (i + 1) := List.drop_eq_getElem_cons hi
    obtain ⟨c, hcc⟩ : ∃ c : UInt8, c = l[i]'hi := ⟨_, rfl⟩
    have e3 : By.dg (l[i]'hi) = By.dg c := by rw [hcc]
    rw [e3]
    rw [← hcc] at e2
    by_cases hc : By.dg c = true
    · rw [if_neg (by rw [hc]; decide)]
      refine ih (i + 1) (by omega) fun x hx => ?_
      rw [List.take_succ_eq_append_getElem hi, List.mem_append] at hx
      rcases hx with hx | hx
      · exact hp x hx
      · simp at hx
        subst hx
        exact e3.trans hc
    · rw [if_pos (by simpa using hc)]
      have h1 : l.takeWhile By.dg = l.take i := by
        conv => lhs; rw [← e]
        rw [List.takeWhile_append_of_pos hp, e2, List.takeWhile_cons, if_neg hc, List.append_nil]
      have h2 : l.dropWhile By.dg = l.drop i := by
        conv => lhs; rw [← e]
        rw [List.dropWhile_append_of_pos hp, e2, List.dropWhile_cons, if_neg hc]
      rw [ndI, h1, h2, if_neg (by rw [e2]; simp), List.length_take]
      omega
/-- A number read from digits, and the rest. -/
structure DgP (z : Int) (r : ByteArray) (w : World) (e : Ending) (w' : World) : Prop where
  h : ∃ o : Nat, e = .returned (.tuple #[.pointer (some ⟨o, 0, none⟩), .string r, .nilIface]) ∧ Big.Own w' w.heap.size (fun _ => True) z (.pointer (some ⟨o, 0, none⟩)) ∧ Below w.heap.size w w'
set_option maxHeartbeats 4000000 in
theorem db_New0 (w : World) : Calls Tryd.prog 42 #[.int .i64 0] w fun e w' => ∃ o : Nat, e = .returned (.pointer (some ⟨o, 0, none⟩)) ∧ Big.Own w' w.heap.size (fun _ => True) 0 (.pointer (some ⟨o, 0, none⟩)) ∧ Below w.heap.size w w' := by
  go_enter Tryd.func42, Tryd.ntmps42
  go_wp2
  go_ret
  exact ⟨w.heap.size, rfl, ⟨w.heap.size, .slice none 0 0, false, [], rfl, trivial, Nat.le_refl _, blk_new w _, Kd.R_nil _ _ _ _ _, ⟨by simp, by simp⟩, by simp, rfl⟩, (Below.refl _ _).alloc (Nat.le_refl _) _⟩
theorem cvt_digits {l : List UInt8} (h : l ≠ []) (ha : l.all By.dg = true) : Ss.cvt (By.ofL l) = some (Bv.decV l) := by
  cases l with
  | nil => exact absurd rfl h
  | cons c r =>
    have hc : By.dg c = true := by rw [List.all_cons, Bool.and_eq_true] at ha; exact ha.1
    have h0 : 0 < (By.ofL (c :: r)).size := by rw [By.ofL_size]; simp
    have hg : (By.ofL (c :: r))[0]'h0 = c := rfl
    have n1 : c ≠ 43 := fun e => by rw [e] at hc; exact absurd hc (by decide)
    have n2 : c ≠ 45 := fun e => by rw [e] at hc; exact absurd hc (by decide)
    have hn : Ss.sgN (By.ofL (c :: r)) = 0 := by
      unfold Ss.sgN
      rw [dif_pos h0, hg]
      simp [n1, n2]
    have hb : Ss.sgB (By.ofL (c :: r)) = false := by
      unfold Ss.sgB
      rw [dif_pos h0, hg]
      simp [n1, n2]
    unfold Ss.cvt
    rw [hn, hb, List.drop_zero, By.bl_ofL, if_pos ⟨by simp, ha⟩]
    rfl
attribute [local go_sem] Ss.EV
set_option maxRecDepth 100000 in
set_option maxHeartbeats 4000000 in
theorem db_digits (l : List UInt8) (w : World) (hl : l.length ≤ 100000) (ha : ∀ c ∈ l, c.toNat < 128) (hG : GW w) : Calls Tryd.prog 64 #[.string (By.ofL l)] w (DgP (Bv.decV (l.takeWhile By.dg)) (By.ofL (l.dropWhile By.dg)) w) := by
  have hC := Tryd.strings_IndexFunc 79 #[] (enters_of Tryd.func79 (by kernel_rfl) rfl) _ (By.ofL l) w (db_pred w)
  change Calls Tryd.prog 78 _ _ _ at hC
  have hix : Lib.idxFunc dbQ true (By.ofL l) = ndI l := by
    have := idx_nd l ha l.length 0 (by omega) (by simp)
    unfold Lib.idxFunc
    rw [By.ofL_size]
    exact this
  rw [hix] at hC
  have HG : Aside0 (∀ W, Below w.heap.size w W → Gw.GW W) := ⟨fun W h => Gw.GW.below hG h⟩
  have HC := Aside0.mk hC
  clear hC hix hG
  by_cases h0 : l.takeWhile By.dg = []
  · -- no digit ahead
    have hd : l.dropWhile By.dg = l := by
      have := List.takeWhile_append_dropWhile (p := By.dg) (l := l)
      rw [h0, List.nil_append] at this
      exact this
    rw [h0, hd]
    have HN : Aside0 (∀ W, Below w.heap.size w W → Calls Tryd.prog 42 #[.int .i64 0] W fun e w' => ∃ o : Nat, e = .returned (.pointer (some ⟨o, 0, none⟩)) ∧ Big.Own w' w.heap.size (fun _ => True) 0 (.pointer (some ⟨o, 0, none⟩)) ∧ Below w.heap.size w w') := ⟨fun W hB => by
      refine (db_New0 W).mono ?_
      rintro e w' ⟨o, rfl, h2, h3⟩
      exact ⟨o, rfl, Big.Own.lower hB.size h2, hB.trans (h3.mono hB.size)⟩⟩
    by_cases h1 : l = []
    · subst h1
      have hi : ndI [] = -1 := rfl
      rw [hi] at HC
      clear h0 hd hi ha hl
      obtain ⟨s, hs⟩ : ∃ s, s = By.ofL [] := ⟨_, rfl⟩
      have he : s.toList = [] := by rw [hs]; exact By.toList_ofL []
      rw [← hs] at HC ⊢
      clear hs
      go_enter Tryd.func64, Tryd.ntmps64
      go_wp2_with (go_at_call 78; (with_reducible refine (HC.out).mono ?_); rintro e W1 ⟨rfl, hb⟩; have HB := Aside0.mk hb; clear hb)
      go_wp2_with (go_at_call 42; (with_reducible refine (HN.out _ HB.out).mono ?_))
      rintro e W2 ⟨o, rfl, hv, hb2⟩
      have HV := Aside0.mk hv
      have HB2 := Aside0.mk hb2
      clear hv hb2
      go_wp2
      go_ret3
      exact ⟨o, rfl, HV.out, HB2.out⟩
    · have hi : ndI l = 0 := by rw [ndI, hd, if_neg h1, h0]; rfl
      rw [hi] at HC
      obtain ⟨s, hs⟩ : ∃ s, s = By.ofL l := ⟨_, rfl⟩
      rw [← hs] at HC ⊢
      clear h0 hd hi ha hl hs
      go_enter Tryd.func64, Tryd.ntmps64
      go_wp2_with (go_at_call 78; (with_reducible refine (HC.out).mono ?_); rintro e W1 ⟨rfl, hb⟩; have HB := Aside0.mk hb; clear hb)
      go_wp2_with (go_at_call 42; (with_reducible refine (HN.out _ HB.out).mono ?_))
      rintro e W2 ⟨o, rfl, hv, hb2⟩
      have HV := Aside0.mk hv
      have HB2 := Aside0.mk hb2
      clear hv hb2
      go_wp2
      go_ret3
      exact ⟨o, rfl, HV.out, HB2.out⟩
  · -- digits ahead
    have hne : l ≠ [] := fun e => h0 (by rw [e]; rfl)
    have hall : (l.takeWhile By.dg).all By.dg = true := by
      rw [List.all_eq_true]
      intro x hx
      exact tw_mem By.dg l x hx
    have hcv := cvt_digits h0 hall
    obtain ⟨m, hm⟩ : ∃ m, m = (l.takeWhile By.dg).length := ⟨_, rfl⟩
    have hm0 : 0 < m := by rw [hm]; exact List.length_pos_iff.2 h0
    have hcat := List.takeWhile_append_dropWhile (p := By.dg) (l := l)
    have htk : l.takeWhile By.dg = l.take m := by
      conv => rhs; rw [← hcat]
      rw [hm, List.take_left']
      rfl
    have hdr : l.dropWhile By.dg = l.drop m := by
      conv => rhs; rw [← hcat]
      rw [hm, List.drop_left']
      rfl
    have hml : m ≤ l.length := by rw [hm]; exact (List.takeWhile_sublist _).length_le
    obtain ⟨s, hs⟩ : ∃ s, s = By.ofL l := ⟨_, rfl⟩
    have hsz : s.size = l.length := by rw [hs, By.ofL_size]
    obtain ⟨t, ht⟩ : ∃ t, t = By.ofL (l.takeWhile By.dg) := ⟨_, rfl⟩
    obtain ⟨u, hu⟩ : ∃ u, u = By.ofL (l.dropWhile By.dg) := ⟨_, rfl⟩
    have hx1 : s.extract 0 m = t := by rw [hs, By.ofL_extract, ht, htk]; rfl
    have hx2 : s.extract m s.size = u := by rw [hs, By.ofL_size, By.ofL_extract, hu, hdr, List.take_of_length_le (Nat.le_refl _)]
    have hsn : s.toList.isEmpty = false := by rw [hs, By.toList_ofL]; cases l with | nil => exact absurd rfl hne | cons _ _ => rfl
    have hsn2 : (s.toList == []) = false := by rw [hs, By.toList_ofL]; cases l with | nil => exact absurd rfl hne | cons _ _ => rfl
    have HV : Aside0 (∀ W, Below w.heap.size w W → Calls Tryd.prog 45 #[.string t] W fun e w' => ∃ o : Nat, e = .returned (.tuple #[.pointer (some ⟨o, 0, none⟩), .nilIface]) ∧ Big.Own w' w.heap.size (fun _ => True) (Bv.decV (l.takeWhile By.dg)) (.pointer (some ⟨o, 0, none⟩)) ∧ Below w.heap.size w w') := ⟨fun W hB => by
      refine (Ss.ss_convert t W (by rw [ht, By.ofL_size, ← hm]; omega) (HG.out W hB).1).mono ?_
      rintro e w' ⟨h3, h4⟩
      rw [ht, hcv] at h4
      rcases h4 with ⟨h5, _⟩ | ⟨z, o, h5, rfl, h6⟩
      · cases h5
      · obtain rfl := Option.some.inj h5
        exact ⟨o, rfl, Big.Own.lower hB.size h6, hB.trans (h3.mono hB.size)⟩⟩
    by_cases h1 : l.dropWhile By.dg = []
    · have hi : ndI l = -1 := by rw [ndI, if_pos h1]
      have hms : m = s.size := by rw [hdr, List.drop_eq_nil_iff] at h1; omega
      have HUE : Aside0 (ByteArray.empty = u) := ⟨by rw [hu, h1]; rfl⟩
      rw [hi] at HC
      rw [← hu]
      rw [← hs] at HC ⊢
      obtain ⟨z, hz⟩ : ∃ z, z = Bv.decV (l.takeWhile By.dg) := ⟨_, rfl⟩
      rw [← hz] at HV ⊢
      have hsl : s.size ≤ 9223372036854775807 := by omega
      subst hms
      clear hz hu ht hs htk hdr hcat hall hcv h0 hne hm h1 hi ha hl hsz hml
      go_enter Tryd.func64, Tryd.ntmps64
      go_wp2_with (go_at_call 78; (with_reducible refine (HC.out).mono ?_); rintro e W1 ⟨rfl, hb⟩; have HB := Aside0.mk hb; clear hb)
      go_wp2_with (go_at_call 45; (with_reducible refine (HV.out _ HB.out).mono ?_))
      rintro e W2 ⟨o, rfl, hv, hb2⟩
      have HO := Aside0.mk hv
      have HB2 := Aside0.mk hb2
      clear hv hb2
      go_wp2
      go_quiet (fail)
      go_wp2
      go_ret3
      exact ⟨o, by first | (rw [← HUE.out]; done) | (rw [← HUE.out]; rfl) | (simp [HUE.out]; done), by first | exact HO.out | exact Big.Own.move (fun _ _ => rfl) HO.out, by first | exact HB2.out | exact pw_below_drewN HB2.out _⟩
    · have hi : ndI l = (m : Int) := by rw [ndI, if_neg h1, hm]
      rw [hi] at HC
      rw [← hu]
      rw [← hs] at HC ⊢
      obtain ⟨z, hz⟩ : ∃ z, z = Bv.decV (l.takeWhile By.dg) := ⟨_, rfl⟩
      rw [← hz] at HV ⊢
      have hms : m ≤ s.size := by omega
      have hmz : (m : Int) ≤ (s.size : Int) := by omega
      have hmn : ¬ (m : Int) = 0 := by omega
      have hmm : ¬ (m : Int) = -1 := by omega
      have hmp : (0 : Int) ≤ (m : Int) := by omega
      have hsl : s.size ≤ 9223372036854775807 := by omega
      clear hz hu ht hs htk hdr hcat hall hcv h0 hne hm h1 hi ha hl hsz hml
      go_enter Tryd.func64, Tryd.ntmps64
      go_wp2_with (go_at_call 78; (with_reducible refine (HC.out).mono ?_); rintro e W1 ⟨rfl, hb⟩; have HB := Aside0.mk hb; clear hb)
      go_wp2_with (go_at_call 45; (with_reducible refine (HV.out _ HB.out).mono ?_))
      rintro e W2 ⟨o, rfl, hv, hb2⟩
      have HO := Aside0.mk hv
      have HB2 := Aside0.mk hb2
      clear hv hb2
      go_wp2
      go_quiet (fail)
      go_wp2
      go_ret3
      exact ⟨o, by first | rfl | (simp; done), by first | exact HO.out | exact Big.Own.move (fun _ _ => rfl) HO.out, by first | exact HB2.out | exact pw_below_drewN HB2.out _⟩

end Go.Proofs.YtkcciinapkeaiaaDoor.Z
