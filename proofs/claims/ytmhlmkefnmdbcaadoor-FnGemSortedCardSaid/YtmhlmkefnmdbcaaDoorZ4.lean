-- Written by a program of this session (myprint.py).
import Derived.Test.YtmhlmkefnmdbcaaDoorZ0
import Derived.Test.YtmhlmkefnmdbcaaDoorSsC
import Derived.Test.YtmhlmkefnmdbcaaDoorShelf
import Derived.Deep.CutBlock
import Derived.Deep.DeepCutAuto
import Derived.Deep.QuietTactic
import Derived.BigQuiet
import Derived.Test.YtmhlmkefnmdbcaaDoorGe
namespace Go.Proofs.YtmhlmkefnmdbcaaDoor.Z
open Go.Proofs.YtmhlmkefnmdbcaaDoor.Gw
open Go.RowKit Go.Proofs.YtmhlmkefnmdbcaaDoorW.PrintWords Go.Proofs.YtmhlmkefnmdbcaaDoorW.PrintLast Go.Proofs.YtmhlmkefnmdbcaaDoorW.PrintMore
attribute [local go_sem high] Go.Proofs.YtmhlmkefnmdbcaaDoor.Ge.gtr_str
attribute [local go_sem] max2_int min2_int max_two min_two max_three min_three max_four min_four   -- for this text's walks alone
set_option linter.unusedVariables false
set_option linter.unusedSimpArgs false

-- PLUGGED semantic_groupSegments: function 80 (a text of this session)
def rbFit (l : List ByteArray) : Bool := l.all fun s => decide (s.size ≤ 1000000)
theorem rbFit_get {l : List ByteArray} (h : rbFit l = true) (i : Nat) (hi : i < l.length) : l[i].size ≤ 1000000 := of_decide_eq_true (List.all_eq_true.1 h _ (List.getElem_mem hi))
theorem rb_at {w : World} {A : Option Addr} {n : Nat} {xs : List ByteArray} (h : Kd.C Kd.string w A n xs) (i : Nat) (h1 : i < xs.length) (hn : n = xs.length) : ∃ ad, A = some ad ∧ w.cell? (ad.add i) = some (.string xs[i]) := by
 obtain ⟨ad, c, e, _, hK, hc0⟩ := Kd.C_get h xs[i] (i : Int) (by omega) (by omega)
 have hc : ∀ j u, c[j]? = some u → w.cell? (ad.add (i * 1 + j)) = some u := hc0
 have hg : xs.getD (i : Int).toNat xs[i] = xs[i] := by rw [Int.toNat_natCast, List.getD_eq_getElem?_getD, List.getElem?_eq_getElem h1]; rfl
 rw [hg] at hK
 have hcs : c = [.string xs[i]] := hK
 subst hcs
 have := hc 0 _ rfl
 rw [Nat.mul_one, Nat.add_zero] at this
 exact ⟨ad, e, this⟩
/-- Is a segment a number; the numbers ahead of the first segment that is none; what stands from there on. -/
def rbN (x : ByteArray) : Bool := (Ss.cvt x).isSome
def semantic_groupSegments.f (l0 : List ByteArray) : Option (List ByteArray × List ByteArray) := if rbFit l0 && decide (l0.length ≤ 1000000) then some (l0.takeWhile rbN, l0.dropWhile rbN) else none
theorem rb_take (l : List ByteArray) (i : Nat) (h : i < l.length) : l.take (i + 1) = l.take i ++ [l[i]] := List.take_succ_eq_append_getElem h
theorem rb_tw (l : List ByteArray) (x : ByteArray) (h : l.dropWhile rbN = []) : l.takeWhile rbN = l := by
 have := List.takeWhile_append_dropWhile (p := rbN) (l := l)
 rw [h, List.append_nil] at this
 exact this
theorem rb_all : ∀ l : List ByteArray, l.dropWhile rbN = [] → ∀ y ∈ l, rbN y = true
 | [], _, y, hy => by simp at hy
 | z :: l, h, y, hy => by
  rw [List.dropWhile_cons] at h
  by_cases hz : rbN z = true
  ·rw [if_pos hz] at h
   rcases List.mem_cons.1 hy with rfl | hy
   ·exact hz
   ·exact rb_all l h y hy
  ·rw [if_neg hz] at h
   cases h
theorem rb_more (l : List ByteArray) (x : ByteArray) (h : ¬ l.dropWhile rbN = []) : (l ++ [x]).takeWhile rbN = l.takeWhile rbN ∧ (l ++ [x]).dropWhile rbN = l.dropWhile rbN ++ [x] := by
 induction l with
 | nil => exact absurd rfl h
 | cons y l ih =>
  rw [List.dropWhile_cons] at h
  rw [List.cons_append, List.takeWhile_cons, List.takeWhile_cons, List.dropWhile_cons, List.dropWhile_cons]
  by_cases hy : rbN y = true
  ·rw [if_pos hy] at h
   obtain ⟨h1, h2⟩ := ih h
   rw [if_pos hy, if_pos hy, if_pos hy, if_pos hy, h1, h2]
   exact ⟨rfl, rfl⟩
  ·rw [if_neg hy, if_neg hy, if_neg hy, if_neg hy]
   exact ⟨rfl, rfl⟩
theorem rb_yes (l : List ByteArray) (x : ByteArray) (h : l.dropWhile rbN = []) (hx : rbN x = true) : (l ++ [x]).takeWhile rbN = l.takeWhile rbN ++ [x] ∧ (l ++ [x]).dropWhile rbN = [] := by
 have ha := rb_all l h
 rw [List.takeWhile_append_of_pos ha, List.dropWhile_append_of_pos ha, rb_tw l x h, List.takeWhile_cons, if_pos hx, List.dropWhile_cons, if_pos hx]
 exact ⟨rfl, rfl⟩
theorem rb_no (l : List ByteArray) (x : ByteArray) (h : l.dropWhile rbN = []) (hx : rbN x = false) : (l ++ [x]).takeWhile rbN = l.takeWhile rbN ∧ (l ++ [x]).dropWhile rbN = [x] := by
 have ha := rb_all l h
 rw [List.takeWhile_append_of_pos ha, List.dropWhile_append_of_pos ha, rb_tw l x h, List.takeWhile_cons, if_neg (by rw [hx]; decide), List.dropWhile_cons, if_neg (by rw [hx]; decide), List.append_nil]
 exact ⟨rfl, rfl⟩
theorem rb_ln (l : List ByteArray) (i : Nat) (h : i ≤ l.length) : ((l.take i).takeWhile rbN).length ≤ i ∧ ((l.take i).dropWhile rbN).length ≤ i := by
 have h1 := (List.takeWhile_sublist rbN (l := l.take i)).length_le
 have h2 := (List.dropWhile_sublist rbN (l := l.take i)).length_le
 rw [List.length_take] at h1 h2
 omega
theorem rb_info : (Tryd.prog.info? 9).map (fun i => (i.zero, i.size, i.bytes)) = some (some (.string ⟨#[]⟩), 1, 16) := by kernel_rfl
abbrev RbU (w : World) (base : Nat) (v b : Value) (xs : List ByteArray) : Prop := Kd.R Kd.string 9 w base (fun k => True ∧ some k ≠ b.ownBlock) v xs
abbrev RbB (w : World) (base : Nat) (b : Value) (xs : List ByteArray) : Prop := Kd.R Kd.string 9 w base (fun _ => True) b xs
theorem rb_turn {w : World} {base : Nat} {v b : Value} {xs ys : List ByteArray} (hU : RbU w base v b xs) (hB : RbB w base b ys) : Kd.R Kd.string 9 w base (fun k => True ∧ some k ≠ v.ownBlock) b ys :=
 Kd.R_of_own (h1 := fun _ => rfl) (Kd.own_of_R hB) (fun k hk => ⟨trivial, fun e => (hU.1 k e.symm).2 hk.symm⟩)
def rbI : Value → Nat
 | .int _ n => n.toNat
 | _ => 0
attribute [local go_sem] Ss.EV
set_option maxRecDepth 100000 in
set_option maxHeartbeats 4000000 in
theorem semantic_groupSegments.calls (A0 : Option Addr) (c0 : Nat) (l0 : List ByteArray) (r0 : List ByteArray) (r1 : List ByteArray) (w : World) (hr0 : Kd.C Kd.string w A0 l0.length l0) (hc0 : l0.length ≤ c0) (hG : GW w) (h : semantic_groupSegments.f l0 = some (r0, r1)) :
  Calls Tryd.prog 80 #[.slice A0 l0.length c0] w fun e w' => ∃ v0_ v1_ : Value, e = .returned (.tuple #[v0_, v1_]) ∧ Kd.R Kd.string 9 w' w.heap.size (fun k_ => some k_ ≠ (v1_ : Value).ownBlock) v0_ r0 ∧ Kd.R Kd.string 9 w' w.heap.size (fun k_ => some k_ ≠ (v0_ : Value).ownBlock) v1_ r1 ∧ Below w.heap.size w w' := by
 unfold semantic_groupSegments.f at h
 split at h
 ·rename_i hf0
  rw [Bool.and_eq_true, decide_eq_true_eq] at hf0
  obtain ⟨hf, hL⟩ := hf0
  simp only [Option.some.injEq, Prod.mk.injEq] at h
  have HRES : Aside0 (r0 = l0.takeWhile rbN ∧ r1 = l0.dropWhile rbN) := ⟨h.1.symm, h.2.symm⟩
  have HF0 := Aside0.mk hf
  have HR0 := Aside0.mk hr0
  have HG := Aside0.mk hG
  have HL := Aside0.mk hL
  have hm0 := Kd.C_max hr0
  clear h hf hr0 hG
  obtain ⟨n0, hn0⟩ : ∃ n0, n0 = l0.length := ⟨_, rfl⟩
  rw [← hn0] at hm0 hL hc0 ⊢
  have HN : Aside0 (n0 = l0.length) := ⟨hn0⟩
  have HC := Aside0.mk hc0
  have H0 : Aside0 (RbU w w.heap.size (.slice none 0 0) (.slice none 0 0) ((l0.take 0).takeWhile rbN) ∧ RbB w w.heap.size (.slice none 0 0) ((l0.take 0).dropWhile rbN)) := ⟨Kd.R_nil _ _ _ _ _, Kd.R_nil _ _ _ _ _⟩
  clear hn0 hc0
  go_enter Tryd.func80, Tryd.ntmps80
  go_wp2
  go_loopw [2, 3, 10] (fun v2 v3 v10 wr => ∃ i : Nat, v10 = .int .i64 (i : Int) ∧ i ≤ n0 ∧ Aside0 (RbU wr w.heap.size v2 v3 ((l0.take i).takeWhile rbN)) ∧ Aside0 (RbB wr w.heap.size v3 ((l0.take i).dropWhile rbN)) ∧ Aside0 (Below w.heap.size w wr)) (fun v2 v3 v10 wr => n0 - rbI v10)
  case atStart => exact ⟨0, rfl, Nat.zero_le _, ⟨H0.out.1⟩, ⟨H0.out.2⟩, ⟨Below.refl _ _⟩⟩
  case round =>
   clear H0
   obtain ⟨i, rfl, him, HU, HBr, HB⟩ := hrel
   by_cases hi : i < n0
   ·have hd : decide ((i : Int) < (n0 : Int)) = true := decide_eq_true (by omega)
    have hd2 : decide (i < n0) = true := decide_eq_true hi
    have hl0 : i < l0.length := by have := HN.out; omega
    obtain ⟨ad0, rfl, hx0⟩ := rb_at (Kd.C_below HR0.out HB.out) i hl0 rfl
    have hs0 := rbFit_get HF0.out i hl0
    have hlen := rb_ln l0 i (by omega)
    have ht := rb_take l0 i hl0
    generalize l0[i] = x at hx0 hs0 ht
    have HT := Aside0.mk ht
    have hi0 : (0 : Int) ≤ (i : Int) := by omega
    have hia : (i : Int) < (n0 : Int) := by omega
    have HI : Aside0 (i < n0) := ⟨hi⟩
    have hC0 := Aside0.mk (Ss.ss_convert x wr hs0 (GW.below HG.out HB.out))
    generalize hgp : l0.take i = P at HU HBr hlen HT
    obtain ⟨A3, c3, rfl, hle3, hC3⟩ := Kd.R_reads HBr.out
    have HLN := Aside0.mk hlen
    obtain ⟨m, hm⟩ : ∃ m, m = (P.dropWhile rbN).length := ⟨_, rfl⟩
    rw [← hm] at hle3 hC3 HBr HU ⊢
    by_cases hb : P.dropWhile rbN = []
    ·have HBN := Aside0.mk hb
     have hm0' : m = 0 := by rw [hm, hb]; rfl
     have b0 : decide (0 < m) = false := decide_eq_false (by omega)
     have b1 : decide ((0 : Int) < (m : Int)) = false := decide_eq_false (by omega)
     clear hm0' hm hb
     clear hlen hle3 hC3 hs0 ht hi HR0 HF0
     go_wp2_with (go_at_call 88; (with_reducible refine (hC0.out).mono ?_))
     rintro e W1 ⟨hB1, h1⟩
     have HBW : Aside0 (Below w.heap.size w W1) := ⟨HB.out.trans (hB1.mono HB.out.size)⟩
     have HU1 : Aside0 (RbU W1 w.heap.size u2 (.slice A3 m c3) (P.takeWhile rbN)) := ⟨Kd.R_below HU.out hB1⟩
     have HB1 : Aside0 (RbB W1 w.heap.size (.slice A3 m c3) (P.dropWhile rbN)) := ⟨Kd.R_below HBr.out hB1⟩
     have HM : Aside0 (Kd.string.M W1 w.heap.size (fun k => True ∧ some k ≠ (Value.slice A3 m c3).ownBlock) x [.string x]) := ⟨rfl⟩
     clear hB1 hC0 HU HBr HB hx0
     rcases h1 with ⟨hn, a, rfl⟩ | ⟨z, o, hz, rfl, hO⟩
     ·have HZ := Aside0.mk (rb_no P x HBN.out (by unfold rbN; rw [hn]; rfl))
      clear hn
      go_wp2_with ((with_reducible refine gate_builtin (b := .append) (xs := #[.tmp 26, .tmp 28]) rfl ?_); at_builtin; refine Kd.R_append Kd.string (w0 := w) w.heap.size rfl (.tmp 26) (.tmp 28) 28 9 (.string ⟨#[]⟩) 16 rfl Tryd.underlying28 rb_info rfl (by decide) (by omega) (.slice A3 m c3) (P.dropWhile rbN) x [.string x] (fun _ => True) (fun k => True ∧ some k ≠ (Value.slice A3 m c3).ownBlock) rfl (by first | rfl | (go_simp; done)) HM.out (fun _ hk => hk) (fun _ _ => trivial) HB1.out HBW.out HBW.out.size (by have := HLN.out; have := HL.out; have := HI.out; have := HN.out; omega) ?_)
      intro v1 W2 ho hb2 hg hat
      have HB2 := Aside0.mk ho
      have HBW2 := Aside0.mk hb2
      have HU2 : Aside0 (RbU W2 w.heap.size u2 v1 (P.takeWhile rbN)) := ⟨Kd.R_after (ok := fun _ => True) HU1.out hg hat⟩
      clear ho hb2 hg hat HM HU1 HB1 HBW
      go_wp2
      go_roundw
      case rel => exact ⟨i + 1, by go_num, HI.out, ⟨by rw [HT.out, HZ.out.1]; exact HU2.out⟩, ⟨by rw [HT.out, HZ.out.2]; have h := HB2.out; rw [HBN.out, List.nil_append] at h; exact h⟩, HBW2⟩
      case measure =>
       have := HI.out
       show n0 - rbI _ < n0 - rbI _
       simp only [rbI]
       omega
     ·have HZ := Aside0.mk (rb_yes P x HBN.out (by unfold rbN; rw [hz]; rfl))
      have HM : Aside0 (Kd.string.M W1 w.heap.size (fun k => (True ∧ some k ≠ (Value.slice A3 m c3).ownBlock) ∧ some k ≠ u2.ownBlock) x [.string x]) := ⟨rfl⟩
      clear hz hO
      go_wp2_with ((with_reducible refine gate_builtin (b := .append) (xs := #[.tmp 30, .tmp 32]) rfl ?_); at_builtin; refine Kd.R_append Kd.string (w0 := w) w.heap.size rfl (.tmp 30) (.tmp 32) 28 9 (.string ⟨#[]⟩) 16 rfl Tryd.underlying28 rb_info rfl (by decide) (by omega) u2 (P.takeWhile rbN) x [.string x] (fun k => True ∧ some k ≠ (Value.slice A3 m c3).ownBlock) (fun k => (True ∧ some k ≠ (Value.slice A3 m c3).ownBlock) ∧ some k ≠ u2.ownBlock) rfl (by first | rfl | (go_simp; done)) HM.out (fun _ hk => hk) (fun k hk => ⟨trivial, Kd.fresh_ok HB1.out k hk⟩) HU1.out HBW.out HBW.out.size (by have := HLN.out; have := HL.out; have := HI.out; have := HN.out; omega) ?_)
      intro v1 W2 ho hb2 hg hat
      have HU2 := Aside0.mk ho
      have HBW2 := Aside0.mk hb2
      have HB2 : Aside0 (RbB W2 w.heap.size (.slice A3 m c3) (P.dropWhile rbN)) := ⟨Kd.R_mono (Kd.R_after (ok := fun _ => True) (rb_turn HU1.out HB1.out) hg hat) (fun _ _ => trivial)⟩
      clear ho hb2 hg hat HM HU1 HB1 HBW
      go_wp2
      go_roundw
      case rel => exact ⟨i + 1, by go_num, HI.out, ⟨by rw [HT.out, HZ.out.1]; exact Kd.R_mono HU2.out (fun _ hk => ⟨trivial, by first | exact hk | exact hk.2⟩)⟩, ⟨by rw [HT.out, HZ.out.2, ← HBN.out]; exact HB2.out⟩, HBW2⟩
      case measure =>
       have := HI.out
       show n0 - rbI _ < n0 - rbI _
       simp only [rbI]
       omega
    ·have HZ := Aside0.mk (rb_more P x hb)
     have hmp : 0 < m := by rw [hm]; exact List.length_pos_iff.2 hb
     have b0 : decide (0 < m) = true := decide_eq_true (by omega)
     have b1 : decide ((0 : Int) < (m : Int)) = true := decide_eq_true (by omega)
     clear hmp hm hb
     clear hlen hle3 hC3 hs0 ht hi HR0 HF0
     go_wp2_with (go_at_call 88; (with_reducible refine (hC0.out).mono ?_))
     rintro e W1 ⟨hB1, h1⟩
     have HBW : Aside0 (Below w.heap.size w W1) := ⟨HB.out.trans (hB1.mono HB.out.size)⟩
     have HU1 : Aside0 (RbU W1 w.heap.size u2 (.slice A3 m c3) (P.takeWhile rbN)) := ⟨Kd.R_below HU.out hB1⟩
     have HB1 : Aside0 (RbB W1 w.heap.size (.slice A3 m c3) (P.dropWhile rbN)) := ⟨Kd.R_below HBr.out hB1⟩
     have HM : Aside0 (Kd.string.M W1 w.heap.size (fun k => True ∧ some k ≠ (Value.slice A3 m c3).ownBlock) x [.string x]) := ⟨rfl⟩
     clear hB1 hC0 HU HBr HB hx0
     rcases h1 with ⟨hn, a, rfl⟩ | ⟨z, o, hz, rfl, hO⟩
     ·clear hn
      go_wp2_with ((with_reducible refine gate_builtin (b := .append) (xs := #[.tmp 26, .tmp 28]) rfl ?_); at_builtin; refine Kd.R_append Kd.string (w0 := w) w.heap.size rfl (.tmp 26) (.tmp 28) 28 9 (.string ⟨#[]⟩) 16 rfl Tryd.underlying28 rb_info rfl (by decide) (by omega) (.slice A3 m c3) (P.dropWhile rbN) x [.string x] (fun _ => True) (fun k => True ∧ some k ≠ (Value.slice A3 m c3).ownBlock) rfl (by first | rfl | (go_simp; done)) HM.out (fun _ hk => hk) (fun _ _ => trivial) HB1.out HBW.out HBW.out.size (by have := HLN.out; have := HL.out; have := HI.out; have := HN.out; omega) ?_)
      intro v1 W2 ho hb2 hg hat
      have HB2 := Aside0.mk ho
      have HBW2 := Aside0.mk hb2
      have HU2 : Aside0 (RbU W2 w.heap.size u2 v1 (P.takeWhile rbN)) := ⟨Kd.R_after (ok := fun _ => True) HU1.out hg hat⟩
      clear ho hb2 hg hat HM HU1 HB1 HBW
      go_wp2
      go_roundw
      case rel => exact ⟨i + 1, by go_num, HI.out, ⟨by rw [HT.out, HZ.out.1]; exact HU2.out⟩, ⟨by rw [HT.out, HZ.out.2]; exact HB2.out⟩, HBW2⟩
      case measure =>
       have := HI.out
       show n0 - rbI _ < n0 - rbI _
       simp only [rbI]
       omega
     ·clear hz hO
      go_wp2_with ((with_reducible refine gate_builtin (b := .append) (xs := #[.tmp 26, .tmp 28]) rfl ?_); at_builtin; refine Kd.R_append Kd.string (w0 := w) w.heap.size rfl (.tmp 26) (.tmp 28) 28 9 (.string ⟨#[]⟩) 16 rfl Tryd.underlying28 rb_info rfl (by decide) (by omega) (.slice A3 m c3) (P.dropWhile rbN) x [.string x] (fun _ => True) (fun k => True ∧ some k ≠ (Value.slice A3 m c3).ownBlock) rfl (by first | rfl | (go_simp; done)) HM.out (fun _ hk => hk) (fun _ _ => trivial) HB1.out HBW.out HBW.out.size (by have := HLN.out; have := HL.out; have := HI.out; have := HN.out; omega) ?_)
      intro v1 W2 ho hb2 hg hat
      have HB2 := Aside0.mk ho
      have HBW2 := Aside0.mk hb2
      have HU2 : Aside0 (RbU W2 w.heap.size u2 v1 (P.takeWhile rbN)) := ⟨Kd.R_after (ok := fun _ => True) HU1.out hg hat⟩
      clear ho hb2 hg hat HM HU1 HB1 HBW
      go_wp2
      go_roundw
      case rel => exact ⟨i + 1, by go_num, HI.out, ⟨by rw [HT.out, HZ.out.1]; exact HU2.out⟩, ⟨by rw [HT.out, HZ.out.2]; exact HB2.out⟩, HBW2⟩
      case measure =>
       have := HI.out
       show n0 - rbI _ < n0 - rbI _
       simp only [rbI]
       omega
   ·obtain rfl : i = n0 := by omega
    have hd : decide ((i : Int) < (i : Int)) = false := decide_eq_false (by omega)
    have hd2 : decide (i < i) = false := decide_eq_false (by omega)
    have HE : Aside0 (RbU wr w.heap.size u2 u3 r0 ∧ RbB wr w.heap.size u3 r1) := ⟨by rw [HRES.out.1, HRES.out.2]; have h1 := HU.out; have h2 := HBr.out; rw [HN.out, List.take_length] at h1 h2; exact ⟨h1, h2⟩⟩
    clear hi HU HBr
    go_wp2
    go_ret2
    exact ⟨_, _, rfl, Kd.R_mono HE.out.1 (fun _ hk => hk.2), Kd.R_mono (rb_turn HE.out.1 HE.out.2) (fun _ hk => hk.2), HB.out⟩
 ·cases h

end Go.Proofs.YtmhlmkefnmdbcaaDoor.Z
