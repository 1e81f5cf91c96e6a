-- Written by a program of this session (myprint.py).
import Derived.Test.YtkcciinapkeaiaaDoorZ0
import Derived.Test.YtkcciinapkeaiaaDoorZ2
import Derived.Test.YtkcciinapkeaiaaDoorZ3
import Derived.Test.YtkcciinapkeaiaaDoorZ4
import Derived.Test.YtkcciinapkeaiaaDoorZ5
import Derived.Lib.OthersKept
import Derived.Laws.RangeString
import Derived.Laws.RangeAny
import Derived.Test.YtkcciinapkeaiaaDoorBy
import Derived.Test.YtkcciinapkeaiaaDoorEv
import Derived.Laws.MakeOwn
import Derived.Deep.CutBlock
import Derived.Deep.DeepCutAuto
import Derived.BigQuiet
import Derived.Deep.QuietTactic
import Derived.Deep.RegionHeld3
import Derived.Test.YtkcciinapkeaiaaDoorGe
namespace Go.Proofs.YtkcciinapkeaiaaDoor.Z
open Go.Proofs.YtkcciinapkeaiaaDoor.Gw
open Go.RowKit Go.Proofs.YtkcciinapkeaiaaDoorW.PrintWords Go.Proofs.YtkcciinapkeaiaaDoorW.PrintLast Go.Proofs.YtkcciinapkeaiaaDoorW.PrintMore
attribute [local go_sem high] Go.Proofs.YtkcciinapkeaiaaDoor.Ge.gtr_str
attribute [local go_sem] max2_int min2_int max_two min_two max_three min_three max_four min_four   -- for this text's walks alone
set_option linter.unusedVariables false
set_option linter.unusedSimpArgs false

-- PLUGGED impl_DebianParts: function 17 (a text of this session)
/-! a text's bytes, oneB by one (zzSplit without a separator) -/
def oneB (c : UInt8) : ByteArray := By.ofL [c]
theorem dp_info : (Tryd.prog.info? 9).map (fun i => (i.zero, i.size, i.bytes)) = some (some (.string ⟨#[]⟩), 1, 16) := by kernel_rfl
theorem dp_ext (l : List UInt8) (i : Nat) (h : i < l.length) : (By.ofL l).extract i (i + 1) = oneB l[i] := by
  rw [By.ofL_extract]
  unfold oneB
  congr 1
  rw [List.take_succ_eq_append_getElem h, List.drop_append_of_le_length (by rw [List.length_take]; omega), List.drop_of_length_le (by rw [List.length_take]; omega)]
  rfl
def dpI : Value → Nat
  | .int _ n => n.toNat
  | _ => 0
/-- A list of texts of the call's own. -/
structure ChP (l : List ByteArray) (w : World) (e : Ending) (w' : World) : Prop where
  h : ∃ A c, e = .returned (.slice A l.length c) ∧ Kd.C Kd.string w' A l.length l ∧ l.length ≤ c ∧ Below w.heap.size w w'
set_option maxRecDepth 100000 in
set_option maxHeartbeats 4000000 in
theorem zs_chars (l : List UInt8) (w : World) (hl : l.length ≤ 100000) (ha : ∀ c ∈ l, c.toNat < 128) : Calls Tryd.prog 61 #[.string (By.ofL l), .string ⟨#[]⟩] w (ChP (l.map oneB) w) := by
  obtain ⟨X, hX⟩ : ∃ X, X = l.map oneB := ⟨_, rfl⟩
  obtain ⟨s, hs⟩ : ∃ s, s = By.ofL l := ⟨_, rfl⟩
  have hsz : s.size = l.length := by rw [hs, By.ofL_size]
  have HA : Aside0 (∀ i : Nat, (h : i < s.size) → (s[i]'h).toNat < 128) := ⟨fun i h => by subst hs; rw [By.ofL_get]; exact ha _ (List.getElem_mem _)⟩
  have HS : Aside0 (X.length = s.size ∧ ∀ i : Nat, (h : i < X.length) → s.extract i (i + 1) = X[i]) := ⟨by rw [hX, List.length_map, hsz], fun i h => by
    subst hX
    have hi : i < l.length := by simpa using h
    rw [hs, dp_ext l i hi, List.getElem_map]⟩
  have hz0 : ((⟨#[]⟩ : ByteArray).size : Int) = 0 := rfl
  have hs2 : s.size ≤ 100000 := by omega
  rw [← hs, ← hX]
  clear hs hsz ha hl hX
  go_enter Tryd.func61, Tryd.ntmps61
  go_wp2
  go_loopw [5, 6] (fun v5 v6 wr => ∃ pos last : Nat, v6 = .int .i64 (last : Int) ∧ Aside0 (ItAt wr w.heap.size s pos) ∧ Aside0 (Kd.R Kd.string 9 wr (w.heap.size + 1) (fun _ => True) v5 (X.take last)) ∧ Aside0 (Below w.heap.size w wr) ∧ Aside0 (last = pos - 1) ∧ pos ≤ s.size) (fun v5 v6 wr => s.size - wr.iterPos w.heap.size)
  case atStart => exact ⟨0, 0, rfl, ⟨World.iter_heap w s 0⟩, ⟨Kd.R_nil _ _ _ _ _⟩, ⟨(Below.refl _ _).alloc (Nat.le_refl _) _⟩, ⟨rfl⟩, by omega⟩
  case round =>
    obtain ⟨pos, last, rfl, HI, HO, HB, HL, hpl⟩ := hrel
    have hsz : w.heap.size < wr.heap.size := (Array.getElem?_eq_some_iff.1 HI.out).1
    by_cases hp : pos < s.size
    · have hc := HA.out pos hp
      have hnx : ∀ ty, (Instr.next (.pointer (some ⟨w.heap.size, 0, none⟩)) true ty).run Tryd.prog wr = _ := fun ty => Lib.run_next_ascii_at wr w.heap.size s pos ty HI.out hp hc
      obtain ⟨wo, hwo⟩ : ∃ wo, wo = wr.iterAt w.heap.size s (pos + 1) := ⟨_, rfl⟩
      have HI2 : Aside0 (ItAt wo w.heap.size s (pos + 1)) := ⟨by rw [hwo]; exact Lib.iterAt_heap wr w.heap.size s pos (pos + 1) HI.out⟩
      have HB2 : Aside0 (Below w.heap.size w wo) := ⟨by rw [hwo]; exact Lib.below_iterAt HB.out (Nat.le_refl _) _ _⟩
      have HO2 : Aside0 (Kd.R Kd.string 9 wo (w.heap.size + 1) (fun _ => True) u5 (X.take last)) := ⟨by
        rw [hwo]
        exact Kd.R_mono (Kd.R_step (Kd.R_bound HO.out) (fun k hk _ => Lib.iterAt_other _ _ _ _ _ (by have := hk.2.1; omega))) (fun _ _ => trivial)⟩
      have hs3 : w.heap.size < wo.heap.size := by rw [hwo, Lib.iterAt_size]; exact hsz
      have HM : Aside0 (wr.iterPos w.heap.size = pos ∧ wo.iterPos w.heap.size = pos + 1) := ⟨by simp only [World.iterPos]; rw [show wr.heap[w.heap.size]? = _ from HI.out], by simp only [World.iterPos]; rw [show wo.heap[w.heap.size]? = _ from HI2.out]⟩
      rw [← hwo] at hnx
      clear hwo hsz HO
      by_cases h0 : pos = 0
      · have hd : decide (0 < pos) = false := decide_eq_false (by omega)
        have HL0 : Aside0 (pos = 0 ∧ last = 0) := ⟨h0, by have := HL.out; omega⟩
        clear HL h0
        go_wp2
        go_roundw
        case rel => exact ⟨pos + 1, last, rfl, HI2, HO2, HB2, ⟨by have := HL0.out; omega⟩, by omega⟩
        case measure =>
          have := HM.out
          omega
      · have hd : decide (0 < pos) = true := decide_eq_true (by omega)
        have hlast : last + 1 = pos := by have := HL.out; omega
        have hlx : last < X.length := by have := HS.out.1; omega
        have hm0 : (0 : Int) ≤ (last : Int) := by omega
        have hm1 : (last : Int) ≤ (pos : Int) := by omega
        have hm2 : (pos : Int) ≤ (s.size : Int) := by omega
        have hn1 : last ≤ pos := by omega
        have hn2 : pos ≤ s.size := by omega
        have hex : s.extract last pos = X[last] := by rw [← hlast]; exact HS.out.2 last hlx
        have HZ : Aside0 (X.take last ++ [X[last]] = X.take pos) := ⟨by rw [← hlast, List.take_succ_eq_append_getElem hlx]⟩
        have HLE : Aside0 ((X.take last).length ≤ 100000) := ⟨by rw [List.length_take]; omega⟩
        obtain ⟨x, hx⟩ : ∃ x, x = X[last] := ⟨_, rfl⟩
        rw [← hx] at hex HZ
        have HK : Aside0 (Kd.string.M wo (w.heap.size + 1) (fun k => True ∧ some k ≠ u5.ownBlock) x [.string x]) := ⟨rfl⟩
        have HPL : Aside0 (pos + 1 ≤ s.size) := ⟨by omega⟩
        have HS3 := Aside0.mk hs3
        clear hx HL h0 hpl hlx hlast hs3
        go_wp2_with ((with_reducible refine gate_builtin (b := .append) (xs := #[.tmp 19, .tmp 24]) rfl ?_); at_builtin; refine Kd.R_append Kd.string (w0 := wo) (w.heap.size + 1) rfl (.tmp 19) (.tmp 24) 43 9 (.string ⟨#[]⟩) 16 rfl Tryd.underlying43 dp_info rfl (by decide) (by omega) u5 (X.take last) x [.string x] (fun _ => True) (fun k => True ∧ some k ≠ u5.ownBlock) rfl (by first | rfl | (go_simp; done)) HK.out (fun _ hk => hk) (fun _ _ => trivial) HO2.out (Below.refl _ _) HS3.out (by have := HLE.out; omega) ?_)
        intro v1 W2 ho hb2 hg hat
        rw [HZ.out] at ho
        have HO3 := Aside0.mk ho
        have HI3 : Aside0 (ItAt W2 w.heap.size s (pos + 1)) := ⟨(hb2.block w.heap.size (by omega)).trans HI2.out⟩
        have HB3 : Aside0 (Below w.heap.size w W2) := ⟨HB2.out.trans (hb2.mono (by omega))⟩
        clear ho hb2 hg hat
        go_wp2
        go_roundw
        case rel => exact ⟨pos + 1, pos, rfl, HI3, HO3, HB3, ⟨by omega⟩, HPL.out⟩
        case measure =>
          have h1 : W2.iterPos w.heap.size = pos + 1 := by simp only [World.iterPos]; rw [show W2.heap[w.heap.size]? = _ from HI3.out]
          have h2 := HM.out.1
          have h3 := HPL.out
          omega
    · have hnx : ∀ ty, (Instr.next (.pointer (some ⟨w.heap.size, 0, none⟩)) true ty).run Tryd.prog wr = _ := fun ty => Lib.run_next_end_at wr w.heap.size s pos ty HI.out hp
      have hps : pos = s.size := by omega
      subst hps
      by_cases h0 : s.size = 0
      · have hd : decide (0 < s.size) = false := decide_eq_false (by omega)
        have hln : X = [] := List.eq_nil_of_length_eq_zero (by have := HS.out.1; omega)
        have HO2 : Aside0 (Kd.R Kd.string 9 wr w.heap.size (fun _ => True) u5 X) := ⟨by
          have h := Kd.R_lower HO.out (Nat.le_succ _)
          rw [hln] at h ⊢
          simpa using h⟩
        clear HO h0 hp hln HL hpl
        go_wp2
        go_ret
        obtain ⟨A, c, e, hc, hr⟩ := Kd.R_reads HO2.out
        rw [e]
        exact ⟨A, c, rfl, hr, hc, HB.out⟩
      · have hd : decide (0 < s.size) = true := decide_eq_true (by omega)
        have hlast : last + 1 = s.size := by have := HL.out; omega
        have hlx : last < X.length := by have := HS.out.1; omega
        have hm0 : (0 : Int) ≤ (last : Int) := by omega
        have hm1 : (last : Int) ≤ (s.size : Int) := by omega
        have hn1 : last ≤ s.size := by omega
        have hex : s.extract last s.size = X[last] := by rw [← hlast]; exact HS.out.2 last hlx
        have HZ : Aside0 (X.take last ++ [X[last]] = X) := ⟨by
          have h1 := HS.out.1
          rw [← List.take_succ_eq_append_getElem hlx, List.take_of_length_le (by omega)]⟩
        have HLE : Aside0 ((X.take last).length ≤ 100000) := ⟨by rw [List.length_take]; omega⟩
        obtain ⟨x, hx⟩ : ∃ x, x = X[last] := ⟨_, rfl⟩
        rw [← hx] at hex HZ
        have HK : Aside0 (Kd.string.M wr (w.heap.size + 1) (fun k => True ∧ some k ≠ u5.ownBlock) x [.string x]) := ⟨rfl⟩
        have HS3 := Aside0.mk hsz
        clear hx HL h0 hpl hlx hlast hsz hp
        go_wp2_with ((with_reducible refine gate_builtin (b := .append) (xs := #[.tmp 30, .tmp 34]) rfl ?_); at_builtin; refine Kd.R_append Kd.string (w0 := wr) (w.heap.size + 1) rfl (.tmp 30) (.tmp 34) 43 9 (.string ⟨#[]⟩) 16 rfl Tryd.underlying43 dp_info rfl (by decide) (by omega) u5 (X.take last) x [.string x] (fun _ => True) (fun k => True ∧ some k ≠ u5.ownBlock) rfl (by first | rfl | (go_simp; done)) HK.out (fun _ hk => hk) (fun _ _ => trivial) HO.out (Below.refl _ _) HS3.out (by have := HLE.out; omega) ?_)
        intro v1 W2 ho hb2 hg hat
        rw [HZ.out] at ho
        have HO3 := Aside0.mk (Kd.R_lower ho (Nat.le_succ _))
        have HB3 : Aside0 (Below w.heap.size w W2) := ⟨HB.out.trans (hb2.mono (by omega))⟩
        clear ho hb2 hg hat
        go_wp2
        go_ret
        obtain ⟨A, c, e, hc, hr⟩ := Kd.R_reads HO3.out
        rw [e]
        exact ⟨A, c, rfl, hr, hc, HB3.out⟩
/-! what stands ahead of digits -/
theorem dp_hasB (c : UInt8) : hasB ⟨#[48, 49, 50, 51, 52, 53, 54, 55, 56, 57]⟩ c = By.dg c := by
  have hm : hasB ⟨#[48, 49, 50, 51, 52, 53, 54, 55, 56, 57]⟩ c = ([48, 49, 50, 51, 52, 53, 54, 55, 56, 57] : List UInt8).contains c := rfl
  rw [hm, Bool.eq_iff_iff, List.contains_iff_mem]
  unfold By.dg
  rw [decide_eq_true_eq]
  constructor
  · intro h
    simp only [List.mem_cons, List.not_mem_nil, or_false] at h
    rcases h with rfl | rfl | rfl | rfl | rfl | rfl | rfl | rfl | rfl | rfl <;> decide
  · intro h
    have hc : ∀ n : Nat, c.toNat = n → n < 256 → c = UInt8.ofNat n := fun n h1 h2 => UInt8.toNat_inj.1 (by rw [h1, UInt8.toNat_ofNat']; omega)
    have : c.toNat = 48 ∨ c.toNat = 49 ∨ c.toNat = 50 ∨ c.toNat = 51 ∨ c.toNat = 52 ∨ c.toNat = 53 ∨ c.toNat = 54 ∨ c.toNat = 55 ∨ c.toNat = 56 ∨ c.toNat = 57 := by omega
    rcases this with h | h | h | h | h | h | h | h | h | h <;> (rw [hc _ h (by omega)]; decide)
def ndA (l : List UInt8) : Int := if dbX l = [] then -1 else ((dbN l).length : Int)
theorem idx_an (l : List UInt8) (d : Nat) : ∀ i : Nat, i + d = l.length → (∀ x ∈ l.take i, By.dg x = false) → idxAny (By.ofL l) ⟨#[48, 49, 50, 51, 52, 53, 54, 55, 56, 57]⟩ d i = ndA l := by
  induction d with
  | zero =>
    intro i h hp
    have e : dbX l = [] := by
      rw [List.take_of_length_le (by omega)] at hp
      have hc := dbX_all l
      cases hq : dbX l with
      | nil => rfl
      | cons x r =>
        have h1 := List.head?_dropWhile_not (fun c => !By.dg c) l
        have h3 : l.dropWhile (fun c => !By.dg c) = x :: r := hq
        rw [h3] at h1
        have h2 := hp x (by rw [← hc, hq]; simp)
        simp [h2] at h1
    rw [ndA, if_pos e]
    rfl
  | succ d ih =>
    intro i h hp
    have hi : i < l.length := by omega
    have hs : i < (By.ofL l).size := by rw [By.ofL_size]; exact hi
    obtain ⟨c, hcc⟩ : ∃ c : UInt8, c = l[i]'hi := ⟨_, rfl⟩
    have hcs : (By.ofL l)[i]'hs = c := by rw [By.ofL_get, hcc]
    have e := List.take_append_drop i l
    have e2 : l.drop i = c :: l.drop (i + 1) := by rw [hcc]; exact List.drop_eq_getElem_cons hi
    rw [idxAny, dif_pos hs, hcs, dp_hasB]
    by_cases hc : By.dg c = true
    · rw [if_pos hc]
      have h1 : dbN l = l.take i := by
        unfold dbN
        conv => lhs; rw [← e]
        rw [List.takeWhile_append_of_pos (fun x hx => by rw [hp x hx]; rfl), e2, List.takeWhile_cons, if_neg (by rw [hc]; decide), List.append_nil]
      have h2 : dbX l = l.drop i := by
        unfold dbX
        conv => lhs; rw [← e]
        rw [List.dropWhile_append_of_pos (fun x hx => by rw [hp x hx]; rfl), e2, List.dropWhile_cons, if_neg (by rw [hc]; decide)]
      rw [ndA, h1, h2, if_neg (by rw [e2]; simp), List.length_take]
      omega
    · rw [if_neg hc]
      refine ih (i + 1) (by omega) fun x hx => ?_
      rw [List.take_succ_eq_append_getElem hi, List.mem_append] at hx
      rcases hx with hx | hx
      · exact hp x hx
      · rw [← hcc] at hx
        rw [List.mem_singleton.1 hx]
        simpa using hc
theorem asc_of {l : List UInt8} (ha : ∀ c ∈ l, c.toNat < 128) : ascB (By.ofL l) = true := decide_eq_true fun i hi => by rw [By.ofL_get]; exact ha _ (List.getElem_mem _)
theorem dp_nd (l : List UInt8) (hl : l.length ≤ 100000) (ha : ∀ c ∈ l, c.toNat < 128) : ∃ k, semantic_splitDebianNonDigitPrefix.f k (By.ofL l) = some (By.ofL (dbN l), By.ofL (dbX l)) := by
  have hz : semantic_zzIndexAny.f (By.ofL l) ⟨#[48, 49, 50, 51, 52, 53, 54, 55, 56, 57]⟩ = some (ndA l) := by
    unfold semantic_zzIndexAny.f
    rw [asc_of ha, By.ofL_size, idx_an l l.length 0 (by omega) (by simp), if_pos]
    rw [decide_eq_true (show l.length ≤ 140737488351232 by omega)]
    rfl
  have hcat := dbX_all l
  have hlen := congrArg List.length hcat
  rw [List.length_append] at hlen
  have e1 : l.take (dbN l).length = dbN l := by
    have := List.take_left' (l₁ := dbN l) (l₂ := dbX l) rfl
    rw [hcat] at this
    exact this
  have e2 : l.drop (dbN l).length = dbX l := by
    have := List.drop_left' (l₁ := dbN l) (l₂ := dbX l) rfl
    rw [hcat] at this
    exact this
  refine ⟨1, ?_⟩
  unfold semantic_splitDebianNonDigitPrefix.f
  rw [hz]
  show (if ndA l = 0 then semantic_splitDebianNonDigitPrefix.j0 1 (By.ofL l) (ndA l) true else semantic_splitDebianNonDigitPrefix.j0 1 (By.ofL l) (ndA l) ((By.ofL l).toList.isEmpty)) = _
  rw [By.toList_ofL]
  by_cases hx : dbX l = []
  · have hn : ndA l = -1 := if_pos hx
    have hnl : dbN l = l := by rw [hx, List.append_nil] at hcat; exact hcat
    rw [hn, if_neg (by decide)]
    cases hq : l with
    | nil =>
      rfl
    | cons c r =>
      rw [← hq]
      have hi : l.isEmpty = false := by rw [hq]; rfl
      rw [hi, semantic_splitDebianNonDigitPrefix.j0, if_neg (by decide), if_pos rfl, if_pos (by omega), if_pos (Int.le_refl _), By.ofL_size, By.ofL_extract, By.ofL_extract, hx, hnl, List.take_of_length_le (Nat.le_refl _), List.drop_of_length_le (Nat.le_refl _)]
      rfl
  · have hn : ndA l = ((dbN l).length : Int) := if_neg hx
    rw [hn]
    by_cases h0 : (dbN l).length = 0
    · have hd : dbN l = [] := List.eq_nil_of_length_eq_zero h0
      have hd2 : dbX l = l := by rw [hd, List.nil_append] at hcat; exact hcat
      rw [h0, if_pos (show ((0 : Nat) : Int) = 0 from rfl), semantic_splitDebianNonDigitPrefix.j0, if_pos rfl, hd, hd2]
      rfl
    · have hi : l.isEmpty = false := by
        cases hq : l with
        | nil => rw [hq] at h0; exact absurd rfl h0
        | cons c r => rfl
      rw [if_neg (by omega), hi, semantic_splitDebianNonDigitPrefix.j0, if_neg (by decide), if_neg (by omega), if_pos (by omega), if_pos (by rw [By.ofL_size]; omega), Int.toNat_natCast, By.ofL_size, By.ofL_extract, By.ofL_extract, e1, List.take_of_length_le (Nat.le_refl _), e2]
      rfl
theorem bt_one (c : UInt8) : bt (oneB c) 0 = (c.toNat : Int) := By.bt_ofL [c] 0 (by simp)
theorem dp_w (c : UInt8) : semantic_weighDebianChar.f (oneB c) = some (dbw c + 2) := by
  unfold semantic_weighDebianChar.f
  have ht : (oneB c).toList = [c] := By.toList_ofL [c]
  have hs : ((oneB c).size : Int) = 1 := rfl
  have hlt : c.toNat < 256 := UInt8.toNat_lt c
  have hw : wrap64 (bt (oneB c) 0) = (c.toNat : Int) := by rw [bt_one]; exact Evs.wrap_in (by omega) (by omega)
  have hw2 : wrap64 ((c.toNat : Int) + 122) = (c.toNat : Int) + 122 := Evs.wrap_in (by omega) (by omega)
  rw [ht, hs, hw, hw2]
  by_cases h1 : c = 126
  · subst h1
    rfl
  · have hn : ¬ ([c] : List UInt8) = [126] := fun e => h1 (by simpa using e)
    rw [if_neg hn, if_neg (by simp), if_pos (by omega)]
    unfold dbw By.lt
    rw [if_neg h1]
    by_cases hl : 97 ≤ c.toNat ∧ c.toNat ≤ 122 ∨ 65 ≤ c.toNat ∧ c.toNat ≤ 90
    · rw [decide_eq_true hl, if_pos rfl, if_neg (by omega)]
      by_cases h9 : (c.toNat : Int) > 90
      · rw [if_pos h9, if_neg (by omega), if_neg (by omega)]
        congr 1
        omega
      · rw [if_neg h9, if_neg (by omega)]
        congr 1
        omega
    · rw [decide_eq_false hl, if_neg Bool.false_ne_true]
      have e : (c.toNat : Int) + 122 = (c.toNat : Int) + 120 + 2 := by omega
      rw [e]
      clear e hw2 hw
      by_cases h6 : (c.toNat : Int) < 65
      · rw [if_pos h6]
      · rw [if_neg h6]
        by_cases h9 : (c.toNat : Int) > 90
        · rw [if_pos h9]
          by_cases h97 : (c.toNat : Int) < 97
          · rw [if_pos h97]
          · rw [if_neg h97, if_pos (by omega)]
        · exact absurd (by omega) hl
theorem dp_w0 : semantic_weighDebianChar.f ⟨#[]⟩ = some 2 := by
  unfold semantic_weighDebianChar.f
  have h : (⟨#[]⟩ : ByteArray).toList = [] := By.toList_ofL []
  rw [h]
  rfl
theorem dp_wt (l : List UInt8) (i : Nat) (hl : l.length ≤ 100000) : ∃ t, semantic_fetch.f (l.map oneB) (i : Int) ⟨#[]⟩ = some t ∧ semantic_weighDebianChar.f t = some ((l.map dbw).getD i 0 + 2) := by
  unfold semantic_fetch.f
  by_cases h : i < l.length
  · refine ⟨oneB (l[i]'h), ?_, ?_⟩
    · rw [if_neg (by rw [List.length_map]; omega), if_pos (by omega), if_pos (by rw [List.length_map]; omega)]
      rw [Evs.rdOf_nat, List.getD_eq_getElem?_getD, List.getElem?_map, List.getElem?_eq_getElem h]
      rfl
    · rw [dp_w, List.getD_eq_getElem?_getD, List.getElem?_map, List.getElem?_eq_getElem h]
      rfl
  · refine ⟨⟨#[]⟩, by rw [if_pos (by rw [List.length_map]; omega)], ?_⟩
    rw [dp_w0, List.getD_eq_getElem?_getD, List.getElem?_map, List.getElem?_eq_none (by omega)]
    rfl
theorem headD_drop (A : List Int) (i : Nat) : (A.drop i).headD 0 = A.getD i 0 := by
  rw [List.getD_eq_getElem?_getD, ← List.head?_drop, List.headD_eq_head?_getD]
theorem wF_drop (d : Nat) (A B : List Int) (i : Nat) : wF (d + 1) (A.drop i) (B.drop i) = if Bn.cmpZ (A.getD i 0) (B.getD i 0) = 0 then wF d (A.drop (i + 1)) (B.drop (i + 1)) else Bn.cmpZ (A.getD i 0) (B.getD i 0) := by
  rw [wF, headD_drop, headD_drop, List.tail_drop, List.tail_drop]
/-! the walk of compareDebianVersions -/
def Asc (l : List UInt8) : Prop := l.length ≤ 100000 ∧ ∀ c ∈ l, c.toNat < 128
theorem dbX_asc {l : List UInt8} (h : Asc l) : Asc (dbX l) := ⟨Nat.le_trans (List.dropWhile_sublist _).length_le h.1, fun c hc => h.2 c ((List.dropWhile_sublist _).subset hc)⟩
theorem dbN_asc {l : List UInt8} (h : Asc l) : Asc (dbN l) := ⟨Nat.le_trans (List.takeWhile_sublist _).length_le h.1, fun c hc => h.2 c ((List.takeWhile_sublist _).subset hc)⟩
theorem dbT_asc {l : List UInt8} (h : Asc l) : Asc (dbT l) := ⟨Nat.le_trans (List.dropWhile_sublist _).length_le (dbX_asc h).1, fun c hc => (dbX_asc h).2 c ((List.dropWhile_sublist _).subset hc)⟩
def zbN : Value → Nat
  | .string s => s.size
  | _ => 0
theorem zsN_ofL (l : List UInt8) : zbN (.string (By.ofL l)) = l.length := By.ofL_size l
theorem dbC_same (a : List UInt8) : dbC a a = 0 := by
  unfold dbC
  generalize max a.length a.length = d
  generalize a.map dbw = x
  induction d generalizing x with
  | zero => rfl
  | succ d ih =>
    rw [wF, if_pos (by unfold Bn.cmpZ; rw [if_neg (by omega), if_neg (by omega)])]
    exact ih _
theorem cmpZ_two (a b : Int) : Bn.cmpZ a b = if a + 2 < b + 2 then -1 else if b + 2 < a + 2 then 1 else 0 := by
  unfold Bn.cmpZ
  split <;> (try split) <;> (try split) <;> (try split) <;> omega
theorem empty_ofL (l : List UInt8) : (By.ofL l).toList.isEmpty = l.isEmpty := by rw [By.toList_ofL]
set_option maxRecDepth 100000 in
set_option maxHeartbeats 8000000 in
theorem db_cmp (a b : List UInt8) (w : World) (ha : Asc a) (hb : Asc b) (hG : GW w) : Calls Tryd.prog 47 #[.string (By.ofL a), .string (By.ofL b)] w fun e w' => e = .returned (.tuple #[.int .i64 (dbP a b), .nilIface]) ∧ Below w.heap.size w w' := by
  obtain ⟨R, hR⟩ : ∃ R, R = dbP a b := ⟨_, rfl⟩
  have HNDC : Aside0 (∀ (l : List UInt8) (W : World), Asc l → Below w.heap.size w W → Calls Tryd.prog 60 #[.string (By.ofL l)] W fun e w' => e = .returned (.tuple #[.string (By.ofL (dbN l)), .string (By.ofL (dbX l))]) ∧ Below w.heap.size w w') := ⟨fun l W hl hB => by
    obtain ⟨k, hk⟩ := dp_nd l hl.1 hl.2
    refine (semantic_splitDebianNonDigitPrefix.calls k _ _ _ W hk).mono ?_
    rintro e w' ⟨rfl, h⟩
    exact ⟨rfl, hB.trans (h.mono hB.size)⟩⟩
  have HDGC : Aside0 (∀ (l : List UInt8) (W : World), Asc l → Below w.heap.size w W → Calls Tryd.prog 64 #[.string (By.ofL (dbX l))] W fun e w' => ∃ o : Nat, e = .returned (.tuple #[.pointer (some ⟨o, 0, none⟩), .string (By.ofL (dbT l)), .nilIface]) ∧ Big.At w' (Bv.decV (dbD l)) (.pointer (some ⟨o, 0, none⟩)) ∧ Below W.heap.size W w') := ⟨fun l W hl hB => by
    refine (db_digits (dbX l) W (dbX_asc hl).1 (dbX_asc hl).2 (Gw.GW.below hG hB)).mono ?_
    rintro e w' ⟨o, rfl, h1, h2⟩
    exact ⟨o, rfl, h1.at_, h2⟩⟩
  have HR : Aside0 (R = dbF (a.length + b.length) a b) := ⟨hR⟩
  have HPQ : Aside0 (Asc a ∧ Asc b) := ⟨ha, hb⟩
  rw [← hR]
  clear hR ha hb hG
  go_enter Tryd.func47, Tryd.ntmps47
  go_wp2
  go_loopw [0, 1] (fun v0 v1 wr => ∃ (p q : List UInt8) (d : Nat), v0 = .string (By.ofL p) ∧ v1 = .string (By.ofL q) ∧ Aside0 (dbF d p q = R) ∧ Aside0 (Asc p ∧ Asc q) ∧ Aside0 (Below w.heap.size w wr) ∧ Aside0 (p.length + q.length ≤ d)) (fun v0 v1 wr => zbN v0 + zbN v1)
  case atStart => exact ⟨a, b, a.length + b.length, rfl, rfl, ⟨HR.out.symm⟩, HPQ, ⟨Below.refl _ _⟩, ⟨Nat.le_refl _⟩⟩
  case round =>
    obtain ⟨p, q, d0, rfl, rfl, HF0, HA, HB, HD0⟩ := hrel
    have HP : Aside0 (Asc p) := ⟨HA.out.1⟩
    have HQ : Aside0 (Asc q) := ⟨HA.out.2⟩
    clear HR HPQ HA
    obtain ⟨sp, hsp⟩ : ∃ s, s = By.ofL p := ⟨_, rfl⟩
    obtain ⟨sq, hsq⟩ : ∃ s, s = By.ofL q := ⟨_, rfl⟩
    have HSP : Aside0 (sp = By.ofL p ∧ sq = By.ofL q) := ⟨hsp, hsq⟩
    rw [← hsp, ← hsq]
    clear hsp hsq
    go_upto_region 4 with fail
    go_cut [22] (fun v22 wc => Aside0 (wc = wr) ∧ v22 = .bool (!(p.isEmpty && q.isEmpty)))
    case first =>
      by_cases h1 : p.isEmpty = true
      · have c1 : sp.toList.isEmpty = true := by rw [HSP.out.1, empty_ofL]; exact h1
        by_cases h2 : q.isEmpty = true
        · have c2 : sq.toList.isEmpty = true := by rw [HSP.out.2, empty_ofL]; exact h2
          have HV : Aside0 ((!(p.isEmpty && q.isEmpty)) = false) := ⟨by rw [h1, h2]; rfl⟩
          clear h1 h2
          go_wp2
          go_meet
          exact ⟨⟨rfl⟩, by rw [HV.out]⟩
        · have c2 : sq.toList.isEmpty = false := by rw [HSP.out.2, empty_ofL]; simpa using h2
          have HV : Aside0 ((!(p.isEmpty && q.isEmpty)) = true) := ⟨by rw [h1, Bool.eq_false_iff.2 h2]; rfl⟩
          clear h1 h2
          go_wp2
          go_meet
          exact ⟨⟨rfl⟩, by rw [HV.out]⟩
      · have c1 : sp.toList.isEmpty = false := by rw [HSP.out.1, empty_ofL]; simpa using h1
        have HV : Aside0 ((!(p.isEmpty && q.isEmpty)) = true) := ⟨by rw [Bool.eq_false_iff.2 h1]; rfl⟩
        clear h1
        go_wp2
        go_meet
        exact ⟨⟨rfl⟩, by rw [HV.out]⟩
    case rest =>
      obtain ⟨HWC, rfl⟩ := hcut
      obtain rfl := HWC.out
      clear HWC
      by_cases hn : p = [] ∧ q = []
      · have HRZ : Aside0 (R = 0) := ⟨by
          rw [← HF0.out, hn.1, hn.2]
          cases d0 with
          | zero => rfl
          | succ d => rw [dbF, if_pos ⟨rfl, rfl⟩]⟩
        have hv : (!(p.isEmpty && q.isEmpty)) = false := by rw [hn.1, hn.2]; rfl
        rw [hv]
        clear hn hv
        go_wp2
        go_ret2
        exact ⟨by first | (rw [HRZ.out]; done) | (rw [HRZ.out]; rfl), HB.out⟩
      · have hv : (!(p.isEmpty && q.isEmpty)) = true := by
          cases p with
          | cons _ _ => rfl
          | nil =>
            cases q with
            | cons _ _ => rfl
            | nil => exact absurd ⟨rfl, rfl⟩ hn
        rw [hv]
        have hpos : 0 < p.length + q.length := by
          cases p with
          | cons _ _ => simp; omega
          | nil =>
            cases q with
            | cons _ _ => simp
            | nil => exact absurd ⟨rfl, rfl⟩ hn
        have hlt : (dbT p).length + (dbT q).length < p.length + q.length := by
          have h1 := dbT_le p
          have h2 := dbT_le q
          by_cases hp : p = []
          · have := dbT_less (l := q) (fun hq => hn ⟨hp, hq⟩)
            omega
          · have := dbT_less hp
            omega
        have HLT := Aside0.mk hlt
        obtain ⟨d, rfl⟩ : ∃ d, d0 = d + 1 := ⟨d0 - 1, by have := HD0.out; omega⟩
        have HDL : Aside0 ((dbT p).length + (dbT q).length ≤ d) := ⟨by have := HD0.out; omega⟩
        obtain ⟨CC, hCC⟩ : ∃ c, c = dbC (dbN p) (dbN q) := ⟨_, rfl⟩
        obtain ⟨Z, hZ⟩ : ∃ z, z = Bn.cmpZ (Bv.decV (dbD p)) (Bv.decV (dbD q)) := ⟨_, rfl⟩
        have HCCD : Aside0 (dbC (dbN p) (dbN q) = CC) := ⟨hCC.symm⟩
        have HZZ : Aside0 (Bn.cmpZ (Bv.decV (dbD p)) (Bv.decV (dbD q)) = Z) := ⟨hZ.symm⟩
        have HF : Aside0 ((CC ≠ 0 → R = CC) ∧ (CC = 0 → (Z ≠ 0 → R = Z) ∧ (Z = 0 → dbF d (dbT p) (dbT q) = R))) := ⟨by
          have h := HF0.out
          rw [dbF, if_neg hn, ← hCC, ← hZ] at h
          refine ⟨fun hc => ?_, fun hc => ⟨fun hz => ?_, fun hz => ?_⟩⟩
          · rw [if_neg hc] at h
            exact h.symm
          · rw [if_pos hc, if_neg hz] at h
            exact h.symm
          · rw [if_pos hc, if_pos hz] at h
            exact h⟩
        have HS1 : Aside0 (∀ W, Below w.heap.size w W → Calls Tryd.prog 60 #[.string sp] W fun e w' => e = .returned (.tuple #[.string (By.ofL (dbN p)), .string (By.ofL (dbX p))]) ∧ Below w.heap.size w w') := ⟨fun W h => by rw [HSP.out.1]; exact HNDC.out p W HP.out h⟩
        have HS2 : Aside0 (∀ W, Below w.heap.size w W → Calls Tryd.prog 60 #[.string sq] W fun e w' => e = .returned (.tuple #[.string (By.ofL (dbN q)), .string (By.ofL (dbX q))]) ∧ Below w.heap.size w w') := ⟨fun W h => by rw [HSP.out.2]; exact HNDC.out q W HQ.out h⟩
        obtain ⟨np_, hnp⟩ : ∃ s, s = By.ofL (dbN p) := ⟨_, rfl⟩
        obtain ⟨nq_, hnq⟩ : ∃ s, s = By.ofL (dbN q) := ⟨_, rfl⟩
        obtain ⟨xp_, hxp⟩ : ∃ s, s = By.ofL (dbX p) := ⟨_, rfl⟩
        obtain ⟨xq_, hxq⟩ : ∃ s, s = By.ofL (dbX q) := ⟨_, rfl⟩
        rw [← hnp, ← hxp] at HS1
        rw [← hnq, ← hxq] at HS2
        have HNP := Aside0.mk hnp
        have HNQ := Aside0.mk hnq
        obtain ⟨n1, hn1⟩ : ∃ n, n = (dbN p).length := ⟨_, rfl⟩
        obtain ⟨n2, hn2⟩ : ∃ n, n = (dbN q).length := ⟨_, rfl⟩
        have HN12 : Aside0 (n1 = (dbN p).length ∧ n2 = (dbN q).length) := ⟨hn1, hn2⟩
        have HLP : Aside0 (np_.size = n1) := ⟨by rw [hnp, By.ofL_size, hn1]⟩
        have HLQ : Aside0 (nq_.size = n2) := ⟨by rw [hnq, By.ofL_size, hn2]⟩
        have HD1 : Aside0 (∀ W, Below w.heap.size w W → Calls Tryd.prog 64 #[.string xp_] W fun e w' => ∃ o : Nat, e = .returned (.tuple #[.pointer (some ⟨o, 0, none⟩), .string (By.ofL (dbT p)), .nilIface]) ∧ Big.At w' (Bv.decV (dbD p)) (.pointer (some ⟨o, 0, none⟩)) ∧ Below W.heap.size W w') := ⟨fun W h => by rw [hxp]; exact HDGC.out p W HP.out h⟩
        have HD2 : Aside0 (∀ W, Below w.heap.size w W → Calls Tryd.prog 64 #[.string xq_] W fun e w' => ∃ o : Nat, e = .returned (.tuple #[.pointer (some ⟨o, 0, none⟩), .string (By.ofL (dbT q)), .nilIface]) ∧ Big.At w' (Bv.decV (dbD q)) (.pointer (some ⟨o, 0, none⟩)) ∧ Below W.heap.size W w') := ⟨fun W h => by rw [hxq]; exact HDGC.out q W HQ.out h⟩
        clear hn hv hpos hlt hCC hZ hnp hnq hxp hxq hn1 hn2 HNDC HDGC HF0 HD0
        go_wp2_with (go_at_call 60; (with_reducible refine (HS1.out _ HB.out).mono ?_))
        rintro e W1 ⟨rfl, hb1⟩
        have HB1 := Aside0.mk hb1
        clear hb1
        go_wp2_with (go_at_call 60; (with_reducible refine (HS2.out _ HB1.out).mono ?_))
        rintro e W2 ⟨rfl, hb2⟩
        have HB2 := Aside0.mk hb2
        clear hb2
        by_cases heq : np_.toList = nq_.toList
        · have hb1 : (np_.toList == nq_.toList) = true := beq_iff_eq.2 heq
          have hb2 : (np_.toList != nq_.toList) = false := by rw [heq]; exact bne_self_eq_false _
          have HC0 : Aside0 (CC = 0) := ⟨by
            have h : dbN p = dbN q := by
              rw [HNP.out, HNQ.out, By.toList_ofL, By.toList_ofL] at heq
              exact heq
            rw [← HCCD.out, h]
            exact dbC_same _⟩
          clear heq
          have HF0 : Aside0 ((Z ≠ 0 → R = Z) ∧ (Z = 0 → dbF d (dbT p) (dbT q) = R)) := ⟨HF.out.2 HC0.out⟩
          clear HC0
          go_wp2_with (go_at_call 64; (with_reducible refine (HD1.out _ HB2.out).mono ?_))
          rintro e WD1 ⟨o1, rfl, hv1, hbd1⟩
          have HA1 := Aside0.mk hv1
          have HBD1 : Aside0 (Below w.heap.size w WD1) := ⟨HB2.out.trans (hbd1.mono HB2.out.size)⟩
          clear hv1 hbd1
          go_wp2_with (go_at_call 64; (with_reducible refine (HD2.out _ HBD1.out).mono ?_))
          rintro e WD2 ⟨o2, rfl, hv2, hbd2⟩
          have HA2 := Aside0.mk hv2
          have HBD2 : Aside0 (Below w.heap.size w WD2) := ⟨HBD1.out.trans (hbd2.mono HBD1.out.size)⟩
          have HCM : Aside0 (Calls Tryd.prog 59 #[.pointer (some ⟨o1, 0, none⟩), .pointer (some ⟨o2, 0, none⟩)] WD2 fun e w' => e = .returned (.int .i64 Z) ∧ Below w.heap.size w w') := ⟨by
            refine (big_Cmp _ _ _ _ WD2 (Big.At.below HA1.out hbd2) HA2.out).mono ?_
            rintro e w' ⟨rfl, n, rfl⟩
            exact ⟨by rw [HZZ.out], pw_below_drewN HBD2.out n⟩⟩
          clear hv2 hbd2
          by_cases hz : Z = 0
          · have HR2 : Aside0 (dbF d (dbT p) (dbT q) = R) := ⟨HF0.out.2 hz⟩
            have hzb : (Z == 0) = true := beq_iff_eq.2 hz
            have hzc : (Z != 0) = false := by rw [hz]; rfl
            clear hz HF0
            go_wp2_with (go_at_call 59; (with_reducible refine (HCM.out).mono ?_))
            rintro e WD3 ⟨rfl, hbd3⟩
            have HBD3 := Aside0.mk hbd3
            clear hbd3
            go_wp2
            go_roundw
            case rel => exact ⟨dbT p, dbT q, d, rfl, rfl, HR2, ⟨dbT_asc HP.out, dbT_asc HQ.out⟩, HBD3, HDL⟩
            case measure =>
              have h1 := HLT.out
              rw [HSP.out.1, HSP.out.2, zsN_ofL, zsN_ofL, zsN_ofL, zsN_ofL]
              exact h1
          · have HR2 : Aside0 (R = Z) := ⟨HF0.out.1 hz⟩
            have hzb : (Z == 0) = false := beq_eq_false_iff_ne.2 hz
            have hzc : (Z != 0) = true := bne_iff_ne.2 hz
            clear hz HF0
            go_wp2_with (go_at_call 59; (with_reducible refine (HCM.out).mono ?_))
            rintro e WD3 ⟨rfl, hbd3⟩
            have HBD3 := Aside0.mk hbd3
            clear hbd3
            go_wp2
            go_ret2
            exact ⟨by first | (rw [HR2.out]; done) | (rw [HR2.out]; rfl), HBD3.out⟩

        · have hb1 : (np_.toList == nq_.toList) = false := beq_eq_false_iff_ne.2 heq
          have hb2 : (np_.toList != nq_.toList) = true := bne_iff_ne.2 heq
          clear heq
          obtain ⟨A, hA⟩ : ∃ A, A = (dbN p).map dbw := ⟨_, rfl⟩
          obtain ⟨B, hB⟩ : ∃ B, B = (dbN q).map dbw := ⟨_, rfl⟩
          have HWA : Aside0 (∀ i : Nat, ∃ t, semantic_fetch.f ((dbN p).map oneB) (i : Int) ⟨#[]⟩ = some t ∧ semantic_weighDebianChar.f t = some (A.getD i 0 + 2)) := ⟨fun i => by rw [hA]; exact dp_wt _ i (dbN_asc HP.out).1⟩
          have HWB : Aside0 (∀ i : Nat, ∃ t, semantic_fetch.f ((dbN q).map oneB) (i : Int) ⟨#[]⟩ = some t ∧ semantic_weighDebianChar.f t = some (B.getD i 0 + 2)) := ⟨fun i => by rw [hB]; exact dp_wt _ i (dbN_asc HQ.out).1⟩
          obtain ⟨M, hM⟩ : ∃ M, M = max (dbN p).length (dbN q).length := ⟨_, rfl⟩
          have HCC : Aside0 (wF (M - 0) (A.drop 0) (B.drop 0) = CC) := ⟨by rw [hM, hA, hB, ← HCCD.out]; rfl⟩
          have HZ1 : Aside0 (∀ W, Below w.heap.size w W → Calls Tryd.prog 61 #[.string np_, .string ⟨#[]⟩] W fun e w' => ∃ AP cp, e = .returned (.slice AP n1 cp) ∧ Kd.C Kd.string w' AP n1 ((dbN p).map oneB) ∧ n1 ≤ cp ∧ Below W.heap.size W w') := ⟨fun W hB => by
            rw [HNP.out]
            refine (zs_chars (dbN p) W (dbN_asc HP.out).1 (dbN_asc HP.out).2).mono ?_
            rintro e w' ⟨AP, cp, rfl, h1, h2, h3⟩
            rw [List.length_map, ← HN12.out.1] at h1 h2 ⊢
            exact ⟨AP, cp, rfl, h1, h2, h3⟩⟩
          have HZ2 : Aside0 (∀ W, Below w.heap.size w W → Calls Tryd.prog 61 #[.string nq_, .string ⟨#[]⟩] W fun e w' => ∃ AP cp, e = .returned (.slice AP n2 cp) ∧ Kd.C Kd.string w' AP n2 ((dbN q).map oneB) ∧ n2 ≤ cp ∧ Below W.heap.size W w') := ⟨fun W hB => by
            rw [HNQ.out]
            refine (zs_chars (dbN q) W (dbN_asc HQ.out).1 (dbN_asc HQ.out).2).mono ?_
            rintro e w' ⟨AP, cp, rfl, h1, h2, h3⟩
            rw [List.length_map, ← HN12.out.2] at h1 h2 ⊢
            exact ⟨AP, cp, rfl, h1, h2, h3⟩⟩
          have HMX : Aside0 (M = max n1 n2) := ⟨by rw [hM, HN12.out.1, HN12.out.2]⟩
          have HML : Aside0 (M ≤ 100000) := ⟨by have h1 := (dbN_asc HP.out).1; have h2 := (dbN_asc HQ.out).1; rw [hM]; omega⟩
          clear hA hB hM
          go_wp2_with (go_at_call 61; (with_reducible refine (HZ1.out _ HB2.out).mono ?_))
          rintro e WS1 ⟨AP, cp, rfl, hs1, hs2, hs3⟩
          have HCP1 : Aside0 (Kd.C Kd.string WS1 AP n1 ((dbN p).map oneB) ∧ n1 ≤ cp) := ⟨hs1, hs2⟩
          have HBS1 : Aside0 (Below w.heap.size w WS1) := ⟨HB2.out.trans (hs3.mono HB2.out.size)⟩
          clear hs1 hs2 hs3
          go_wp2_with (go_at_call 61; (with_reducible refine (HZ2.out _ HBS1.out).mono ?_))
          rintro e WS2 ⟨AQ, cq, rfl, hs1, hs2, hs3⟩
          have HCP : Aside0 (Kd.C Kd.string WS2 AP ((dbN p).map oneB).length ((dbN p).map oneB) ∧ ((dbN p).map oneB).length ≤ cp ∧ ((dbN p).map oneB).length = n1) := ⟨by
            have h : ((dbN p).map oneB).length = n1 := by rw [List.length_map, HN12.out.1]
            rw [h]
            exact ⟨Kd.C_below HCP1.out.1 hs3, HCP1.out.2, rfl⟩⟩
          have HCQ : Aside0 (Kd.C Kd.string WS2 AQ ((dbN q).map oneB).length ((dbN q).map oneB) ∧ ((dbN q).map oneB).length ≤ cq ∧ ((dbN q).map oneB).length = n2) := ⟨by
            have h : ((dbN q).map oneB).length = n2 := by rw [List.length_map, HN12.out.2]
            rw [h]
            exact ⟨hs1, hs2, rfl⟩⟩
          have HBS2 : Aside0 (Below w.heap.size w WS2) := ⟨HBS1.out.trans (hs3.mono HBS1.out.size)⟩
          clear hs1 hs2 hs3 HCP1 HZ1 HZ2
          have hlp := HLP.out
          have hlq := HLQ.out
          go_upto_region 10 with fail
          go_cut [44, 45] (fun v44 v45 wc => Aside0 (wc = WS2) ∧ v44 = .int .i64 (M : Int) ∧ v45 = .int .i64 0)
          case first =>
            rcases Nat.lt_or_ge n1 n2 with hlt | hge
            · have hmm : M = n2 := by have := HMX.out; omega
              subst hmm
              go_wp2
              all_goals
                go_meet
                exact ⟨⟨rfl⟩, rfl, rfl⟩
            · have hmm : M = n1 := by have := HMX.out; omega
              subst hmm
              go_wp2
              all_goals
                go_meet
                exact ⟨⟨rfl⟩, rfl, rfl⟩
          case rest =>
            obtain ⟨⟨rfl⟩, rfl, rfl⟩ := hcut
            go_wp2
            go_loopw [45] (fun v45 wi => ∃ i : Nat, v45 = .int .i64 (i : Int) ∧ i ≤ M ∧ Aside0 (wF (M - i) (A.drop i) (B.drop i) = CC) ∧ Aside0 (Below wc.heap.size wc wi)) (fun v45 wi => M - dpI v45)
            case atStart => exact ⟨0, rfl, Nat.zero_le _, ⟨HCC.out⟩, ⟨Below.refl _ _⟩⟩
            case round =>
              obtain ⟨i, rfl, hiM, HI, HBI⟩ := hrel
              have HBW : Aside0 (∀ W, Below wc.heap.size wc W → Below w.heap.size w W) := ⟨fun W h => HBS2.out.trans (h.mono HBS2.out.size)⟩
              by_cases hi : i < M
              · have hd : decide ((i : Int) < (M : Int)) = true := decide_eq_true (by omega)
                have hd2 : decide (i < M) = true := decide_eq_true hi
                have hstep := wF_drop (M - i - 1) A B i
                rw [show M - i - 1 + 1 = M - i from by omega, HI.out] at hstep
                obtain ⟨x, hx⟩ : ∃ x, x = A.getD i 0 + 2 := ⟨_, rfl⟩
                obtain ⟨y, hy⟩ : ∃ y, y = B.getD i 0 + 2 := ⟨_, rfl⟩
                obtain ⟨tx, hf1, hw1⟩ := HWA.out i
                obtain ⟨ty, hf2, hw2⟩ := HWB.out i
                rw [← hx] at hw1
                rw [← hy] at hw2
                have hxy : Bn.cmpZ (A.getD i 0) (B.getD i 0) = if x < y then -1 else if y < x then 1 else 0 := by
                  rw [hx, hy]
                  exact cmpZ_two _ _
                rw [hxy] at hstep
                have HSTEP := Aside0.mk hstep
                have HF1 : Aside0 (∀ W, Below wc.heap.size wc W → Calls Tryd.prog 63 #[.slice AP n1 cp, .int .i64 (i : Int), .string ⟨#[]⟩] W fun e w' => e = .returned (.string tx) ∧ Below wc.heap.size wc w') := ⟨fun W hB => by
                  have h := semantic_fetch.calls AP cp _ _ _ _ W (Kd.C_below HCP.out.1 hB) HCP.out.2.1 hf1
                  rw [HCP.out.2.2] at h
                  refine h.mono ?_
                  rintro e w' ⟨rfl, n, rfl⟩
                  exact ⟨rfl, pw_below_drewN hB n⟩⟩
                have HF2 : Aside0 (∀ W, Below wc.heap.size wc W → Calls Tryd.prog 63 #[.slice AQ n2 cq, .int .i64 (i : Int), .string ⟨#[]⟩] W fun e w' => e = .returned (.string ty) ∧ Below wc.heap.size wc w') := ⟨fun W hB => by
                  have h := semantic_fetch.calls AQ cq _ _ _ _ W (Kd.C_below HCQ.out.1 hB) HCQ.out.2.1 hf2
                  rw [HCQ.out.2.2] at h
                  refine h.mono ?_
                  rintro e w' ⟨rfl, n, rfl⟩
                  exact ⟨rfl, pw_below_drewN hB n⟩⟩
                have HW1 : Aside0 (∀ W, Below wc.heap.size wc W → Calls Tryd.prog 62 #[.string tx] W fun e w' => e = .returned (.int .i64 x) ∧ Below wc.heap.size wc w') := ⟨fun W hB => by
                  refine (semantic_weighDebianChar.calls _ _ W hw1).mono ?_
                  rintro e w' ⟨rfl, n, rfl⟩
                  exact ⟨rfl, pw_below_drewN hB n⟩⟩
                have HW2 : Aside0 (∀ W, Below wc.heap.size wc W → Calls Tryd.prog 62 #[.string ty] W fun e w' => e = .returned (.int .i64 y) ∧ Below wc.heap.size wc w') := ⟨fun W hB => by
                  refine (semantic_weighDebianChar.calls _ _ W hw2).mono ?_
                  rintro e w' ⟨rfl, n, rfl⟩
                  exact ⟨rfl, pw_below_drewN hB n⟩⟩
                have HIM : Aside0 (i < M) := ⟨hi⟩
                clear hstep hxy hx hy hf1 hf2 hw1 hw2 hi
                go_wp2_with (go_at_call 63; (with_reducible refine (HF1.out _ HBI.out).mono ?_))
                rintro e WI1 ⟨rfl, hi1⟩
                have HI1 := Aside0.mk hi1
                clear hi1
                go_wp2_with (go_at_call 62; (with_reducible refine (HW1.out _ HI1.out).mono ?_))
                rintro e WI2 ⟨rfl, hi2⟩
                have HI2 := Aside0.mk hi2
                clear hi2
                go_wp2_with (go_at_call 63; (with_reducible refine (HF2.out _ HI2.out).mono ?_))
                rintro e WI3 ⟨rfl, hi3⟩
                have HI3 := Aside0.mk hi3
                clear hi3
                rcases Int.lt_trichotomy x y with hl | hl | hl
                · have e1 : decide (x < y) = true := decide_eq_true hl
                  have HV : Aside0 (R = -1) := ⟨by
                    have h := HSTEP.out
                    rw [if_pos hl, if_neg (by omega)] at h
                    have h2 := HF.out.1 (by rw [h]; omega)
                    rw [h2, h]⟩
                  clear hl
                  go_wp2_with (go_at_call 62; (with_reducible refine (HW2.out _ HI3.out).mono ?_))
                  rintro e WI4 ⟨rfl, hi4⟩
                  have HI4 := Aside0.mk hi4
                  clear hi4
                  go_wp2
                  go_ret2
                  exact ⟨by first | (rw [HV.out]; done) | (rw [HV.out]; rfl), HBW.out _ HI4.out⟩
                · have e1 : decide (x < y) = false := decide_eq_false (by omega)
                  have e2 : decide (y < x) = false := decide_eq_false (by omega)
                  have e3 : decide (x > y) = false := decide_eq_false (by omega)
                  have HV : Aside0 (wF (M - (i + 1)) (A.drop (i + 1)) (B.drop (i + 1)) = CC) := ⟨by
                    have h := HSTEP.out
                    have hc : (if x < y then (-1 : Int) else if y < x then 1 else 0) = 0 := by rw [if_neg (by omega), if_neg (by omega)]
                    rw [hc, if_pos rfl] at h
                    rw [h]
                    rfl⟩
                  have HIM2 : Aside0 (i + 1 ≤ M) := ⟨HIM.out⟩
                  clear hl
                  go_wp2_with (go_at_call 62; (with_reducible refine (HW2.out _ HI3.out).mono ?_))
                  rintro e WI4 ⟨rfl, hi4⟩
                  have HI4 := Aside0.mk hi4
                  clear hi4
                  go_wp2
                  have hb1 := HIM.out
                  have hb2 := HML.out
                  go_roundw
                  case rel => exact ⟨i + 1, (by first | (rw [Evs.wrap_nat (by omega)]; done) | (rw [Evs.wrap_nat (by omega)]; rfl) | (simp only [i64_w]; rw [Evs.wrap_nat (by omega)])), HIM2.out, HV, HI4⟩
                  case measure =>
                    show M - dpI _ < M - dpI _
                    simp only [dpI]
                    rw [show wrap64 ((i : Int) + 1) = (i : Int) + 1 from Evs.wrap_in (by omega) (by omega)]
                    omega
                · have e1 : decide (x < y) = false := decide_eq_false (by omega)
                  have e2 : decide (y < x) = true := decide_eq_true hl
                  have e3 : decide (x > y) = true := decide_eq_true hl
                  have HV : Aside0 (R = 1) := ⟨by
                    have h := HSTEP.out
                    rw [if_neg (by omega), if_pos hl, if_neg (by omega)] at h
                    have h2 := HF.out.1 (by rw [h]; omega)
                    rw [h2, h]⟩
                  clear hl
                  go_wp2_with (go_at_call 62; (with_reducible refine (HW2.out _ HI3.out).mono ?_))
                  rintro e WI4 ⟨rfl, hi4⟩
                  have HI4 := Aside0.mk hi4
                  clear hi4
                  go_wp2
                  go_ret2
                  exact ⟨by first | (rw [HV.out]; done) | (rw [HV.out]; rfl), HBW.out _ HI4.out⟩
              · have hd : decide ((i : Int) < (M : Int)) = false := decide_eq_false (by omega)
                have hd2 : decide (i < M) = false := decide_eq_false hi
                have HC0 : Aside0 (CC = 0) := ⟨by rw [← HI.out, show M - i = 0 from by omega]; rfl⟩
                have HBT : Aside0 (Below w.heap.size w wr) := ⟨HBW.out _ HBI.out⟩
                clear hi
                have HF0 : Aside0 ((Z ≠ 0 → R = Z) ∧ (Z = 0 → dbF d (dbT p) (dbT q) = R)) := ⟨HF.out.2 HC0.out⟩
                clear HC0
                go_wp2_with (go_at_call 64; (with_reducible refine (HD1.out _ HBT.out).mono ?_))
                rintro e WD1 ⟨o1, rfl, hv1, hbd1⟩
                have HA1 := Aside0.mk hv1
                have HBD1 : Aside0 (Below w.heap.size w WD1) := ⟨HBT.out.trans (hbd1.mono HBT.out.size)⟩
                clear hv1 hbd1
                go_wp2_with (go_at_call 64; (with_reducible refine (HD2.out _ HBD1.out).mono ?_))
                rintro e WD2 ⟨o2, rfl, hv2, hbd2⟩
                have HA2 := Aside0.mk hv2
                have HBD2 : Aside0 (Below w.heap.size w WD2) := ⟨HBD1.out.trans (hbd2.mono HBD1.out.size)⟩
                have HCM : Aside0 (Calls Tryd.prog 59 #[.pointer (some ⟨o1, 0, none⟩), .pointer (some ⟨o2, 0, none⟩)] WD2 fun e w' => e = .returned (.int .i64 Z) ∧ Below w.heap.size w w') := ⟨by
                  refine (big_Cmp _ _ _ _ WD2 (Big.At.below HA1.out hbd2) HA2.out).mono ?_
                  rintro e w' ⟨rfl, n, rfl⟩
                  exact ⟨by rw [HZZ.out], pw_below_drewN HBD2.out n⟩⟩
                clear hv2 hbd2
                by_cases hz : Z = 0
                · have HR2 : Aside0 (dbF d (dbT p) (dbT q) = R) := ⟨HF0.out.2 hz⟩
                  have hzb : (Z == 0) = true := beq_iff_eq.2 hz
                  have hzc : (Z != 0) = false := by rw [hz]; rfl
                  clear hz HF0
                  go_wp2_with (go_at_call 59; (with_reducible refine (HCM.out).mono ?_))
                  rintro e WD3 ⟨rfl, hbd3⟩
                  have HBD3 := Aside0.mk hbd3
                  clear hbd3
                  go_wp2
                  go_roundw
                  case rel => exact ⟨dbT p, dbT q, d, rfl, rfl, HR2, ⟨dbT_asc HP.out, dbT_asc HQ.out⟩, HBD3, HDL⟩
                  case measure =>
                    have h1 := HLT.out
                    rw [HSP.out.1, HSP.out.2, zsN_ofL, zsN_ofL, zsN_ofL, zsN_ofL]
                    exact h1
                · have HR2 : Aside0 (R = Z) := ⟨HF0.out.1 hz⟩
                  have hzb : (Z == 0) = false := beq_eq_false_iff_ne.2 hz
                  have hzc : (Z != 0) = true := bne_iff_ne.2 hz
                  clear hz HF0
                  go_wp2_with (go_at_call 59; (with_reducible refine (HCM.out).mono ?_))
                  rintro e WD3 ⟨rfl, hbd3⟩
                  have HBD3 := Aside0.mk hbd3
                  clear hbd3
                  go_wp2
                  go_ret2
                  exact ⟨by first | (rw [HR2.out]; done) | (rw [HR2.out]; rfl), HBD3.out⟩

set_option maxRecDepth 100000 in
set_option maxHeartbeats 4000000 in
theorem db_ZZParts (a b : List UInt8) (w : World) (ha : Asc a) (hb : Asc b) (hG : GW w) : Calls Tryd.prog 31 #[.string (By.ofL a), .string (By.ofL b)] w fun e w' => e = .returned (.tuple #[.int .i64 (dbP a b), .nilIface]) ∧ Below w.heap.size w w' := by
  have HC := Aside0.mk (db_cmp a b w ha hb hG)
  generalize dbP a b = R at HC ⊢
  generalize By.ofL a = sa at HC ⊢
  generalize By.ofL b = sb at HC ⊢
  clear ha hb hG
  go_enter Tryd.func31, Tryd.ntmps31
  go_wp2_with (go_at_call 47; (with_reducible refine (HC.out).mono ?_))
  rintro e W1 ⟨rfl, hb1⟩
  have HB1 := Aside0.mk hb1
  clear hb1
  go_wp2
  go_ret2
  exact ⟨rfl, HB1.out⟩
theorem ascB_all {s : ByteArray} (h : ascB s = true) : ∀ c ∈ By.bl s, c.toNat < 128 := fun c hc => by
  obtain ⟨i, hi, rfl⟩ := List.getElem_of_mem hc
  exact ascB_of h i (by rw [By.bl_length] at hi; exact hi)
def impl_DebianParts.f (a0 a1 : ByteArray) : Option (Int × Bool) := if (a0.size ≤ 100000 ∧ ascB a0 = true) ∧ a1.size ≤ 100000 ∧ ascB a1 = true then some (dbP (By.bl a0) (By.bl a1), true) else none
set_option maxRecDepth 100000 in
set_option maxHeartbeats 4000000 in
theorem impl_DebianParts.calls (a0 a1 : ByteArray) (r1 : Int) (r2 : Bool) (w : World) (hG : GW w) (h : impl_DebianParts.f a0 a1 = some (r1, r2)) :
    Calls Tryd.prog 17 #[.string a0, .string a1] w fun e w' => e = .returned (.tuple #[.int .i64 r1, .bool r2]) ∧ Below w.heap.size w w' := by
  unfold impl_DebianParts.f at h
  split at h
  · rename_i hf
    have hc0 := db_ZZParts (By.bl a0) (By.bl a1) w ⟨by rw [By.bl_length]; exact hf.1.1, ascB_all hf.1.2⟩ ⟨by rw [By.bl_length]; exact hf.2.1, ascB_all hf.2.2⟩ hG
    rw [By.ofL_bl, By.ofL_bl] at hc0
    have HC := Aside0.mk hc0
    simp only [Option.some.injEq, Prod.mk.injEq] at h
    obtain ⟨rfl, rfl⟩ := h
    generalize dbP (By.bl a0) (By.bl a1) = R at HC ⊢
    clear hf hc0 hG
    go_enter Tryd.func17, Tryd.ntmps17
    go_wp2_with (go_at_call 31; (with_reducible refine (HC.out).mono ?_))
    rintro e W1 ⟨rfl, hb1⟩
    have HB1 := Aside0.mk hb1
    clear hb1
    go_wp2
    go_quiet (fail)
    go_wp2
    go_ret2
    exact ⟨by first | rfl | (simp; done), by first | exact HB1.out | exact pw_below_drewN HB1.out _⟩
  · cases h

end Go.Proofs.YtkcciinapkeaiaaDoor.Z
