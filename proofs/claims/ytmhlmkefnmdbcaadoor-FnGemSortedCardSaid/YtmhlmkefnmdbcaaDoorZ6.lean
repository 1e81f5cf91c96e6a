-- Written by a program of this session (myprint.py).
import Derived.Test.YtmhlmkefnmdbcaaDoorZ0
import Derived.Lib.OthersKept
import Derived.Laws.RangeAny
import Derived.Test.YtmhlmkefnmdbcaaDoorBd
import Derived.Test.YtmhlmkefnmdbcaaDoorShelf
import Derived.Test.YtmhlmkefnmdbcaaDoorGe
namespace Go.Proofs.YtmhlmkefnmdbcaaDoor.Z
open Go.Proofs.YtmhlmkefnmdbcaaDoor.Gw
open Go.RowKit Go.Proofs.YtmhlmkefnmdbcaaDoorW.PrintWords Go.Proofs.YtmhlmkefnmdbcaaDoorW.PrintLast Go.Proofs.YtmhlmkefnmdbcaaDoorW.PrintMore
attribute [local go_sem high] Go.Proofs.YtmhlmkefnmdbcaaDoor.Ge.gtr_str
attribute [local go_sem] max2_int min2_int max_two min_two max_three min_three max_four min_four   -- for this text's walks alone
set_option linter.unusedVariables false
set_option linter.unusedSimpArgs false

-- PLUGGED semantic_canonicalizeRubyGemVersion: function 67 (a text of this session)
def digC (c : UInt8) : Bool := decide (48 ≤ c.toNat ∧ c.toNat ≤ 57)
/-- What the loop writes from here on: cp: is there a sign that is no point ahead; pd: was it a digit. -/
def canonL : List UInt8 → Bool → Bool → List UInt8
 | [], _, _ => []
 | c :: l, cp, pd => if c = 46 then 46 :: canonL l false pd else if cp && (pd != digC c) then 46 :: c :: canonL l true (digC c) else c :: canonL l true (digC c)
def semantic_canonicalizeRubyGemVersion.f (a0 : ByteArray) : Option ByteArray := if decide (∀ i : Nat, (h : i < a0.size) → (a0[i]'h).toNat < 128) && decide (a0.size ≤ 140737488351) then some ⟨(canonL a0.data.toList false true).toArray⟩ else none
theorem canon_dot (l : List UInt8) (cp pd : Bool) : canonL (46 :: l) cp pd = 46 :: canonL l false pd := by simp [canonL]
theorem canon_two (c : UInt8) (l : List UInt8) (cp pd : Bool) (h : ¬ c = 46) (h2 : (cp && (pd != digC c)) = true) : canonL (c :: l) cp pd = 46 :: c :: canonL l true (digC c) := by rw [canonL, if_neg h, if_pos h2]
theorem canon_one (c : UInt8) (l : List UInt8) (cp pd : Bool) (h : ¬ c = 46) (h2 : (cp && (pd != digC c)) = false) : canonL (c :: l) cp pd = c :: canonL l true (digC c) := by rw [canonL, if_neg h, if_neg (by rw [h2]; decide)]
set_option maxHeartbeats 1000000 in
theorem isDigC (c : UInt8) (w : World) : Calls Tryd.prog 83 #[.int .i32 (c.toNat : Int)] w fun e w' => e = .returned (.bool (digC c)) ∧ w' = w := by
 unfold digC
 by_cases h : 48 ≤ c.toNat
 ·have h1 : decide ((48 : Int) ≤ (c.toNat : Int)) = true := decide_eq_true (by omega)
  have h2 : decide ((c.toNat : Int) ≤ 57) = decide (48 ≤ c.toNat ∧ c.toNat ≤ 57) := by
   rw [decide_eq_decide]
   omega
  generalize decide (48 ≤ c.toNat ∧ c.toNat ≤ 57) = b at h2
  go_enter Tryd.func83, Tryd.ntmps83
  go_wp2
  go_ret
  exact ⟨by first | rfl | (rw [← h2]; rfl) | (simp [h2]), rfl⟩
 ·have h1 : decide ((48 : Int) ≤ (c.toNat : Int)) = false := decide_eq_false (by omega)
  have h2 : decide (48 ≤ c.toNat ∧ c.toNat ≤ 57) = false := decide_eq_false (by omega)
  rw [h2]
  go_enter Tryd.func83, Tryd.ntmps83
  go_wp2
  go_ret
  exact ⟨rfl, rfl⟩
theorem bne_turn (a b : Bool) : (a != b) = (!a == b) := by cases a <;> cases b <;> rfl
def ItAtC (w : World) (k : Nat) (s : ByteArray) (pos : Nat) : Prop := w.heap[k]? = some (.stringIter s pos)
def BIs (B b : Nat) (bs : List UInt8) (w : World) : Prop := Bd.Is B b (Lib.byteCells bs) w
theorem BIs.step {B b : Nat} {bs : List UInt8} {c : UInt8} {w : World} (h : Bd.At B b (Lib.byteCells bs ++ [.int .u8 (c.toNat : Int)]) w) : BIs B b (bs ++ [c]) w := by
 unfold BIs
 rw [Lib.byteCells_append]
 exact Or.inr h
theorem BIs.dot {B b : Nat} {bs : List UInt8} {w : World} (h : Bd.At B b (Lib.byteCells bs ++ Lib.strCells ⟨#[46]⟩) w) : BIs B b (bs ++ [46]) w := by
 unfold BIs
 rw [Lib.byteCells_append]
 exact Or.inr h
set_option maxHeartbeats 8000000 in
set_option maxRecDepth 100000 in
theorem semantic_canonicalizeRubyGemVersion.calls (a0 : ByteArray) (r : ByteArray) (w : World) (h : semantic_canonicalizeRubyGemVersion.f a0 = some r) :
  Calls Tryd.prog 67 #[.string a0] w fun e w' => e = .returned (.string r) ∧ Below w.heap.size w w' := by
 obtain ⟨ha0, hs0, hr⟩ : (∀ i : Nat, (h : i < a0.size) → (a0[i]'h).toNat < 128) ∧ a0.size ≤ 140737488351 ∧ r = ⟨(canonL a0.data.toList false true).toArray⟩ := by
  unfold semantic_canonicalizeRubyGemVersion.f at h
  split at h
  ·rename_i hc
   simp only [Bool.and_eq_true, decide_eq_true_eq] at hc
   exact ⟨hc.1, hc.2, (Option.some.inj h).symm⟩
  ·cases h
 have HR := Aside0.mk hr
 have HA := Aside0.mk ha0
 clear h hr ha0
 go_enter Tryd.func67, Tryd.ntmps67
 go_wp2
 go_loopw [4, 5] (fun v4 v5 wr => ∃ (pos : Nat) (acc : List UInt8) (cp pd : Bool), v4 = .bool cp ∧ v5 = .bool pd ∧ Aside0 (BIs w.heap.size w.heap.size acc wr) ∧ Aside0 (ItAtC wr (w.heap.size + 1) a0 pos) ∧ Aside0 (Below w.heap.size w wr) ∧ Aside0 (acc ++ canonL (a0.data.toList.drop pos) cp pd = canonL a0.data.toList false true) ∧ acc.length ≤ 2 * pos ∧ pos ≤ a0.size) (fun _ _ wr => a0.size - wr.iterPos (w.heap.size + 1))
 case atStart =>
  refine ⟨0, [], false, true, rfl, rfl, ⟨(Lib.IsBuilderF.of (Lib.fresh_isBuilder 102 5 w)).alloc _⟩, ⟨?_⟩, ⟨((Below.refl _ w).alloc (Nat.le_refl _) _).alloc (by simp) _⟩, ⟨rfl⟩, by simp, by omega⟩
  have := World.iter_heap (w.alloc (.cells #[.pointer none, .slice none 0 0] 102)) a0 0
  simpa [ItAtC] using this
 case round =>
  obtain ⟨pos, acc, cp, pd, rfl, rfl, HI, HIT, HB, HV, hal, hpl⟩ := hrel
  have hsz : w.heap.size + 1 < wr.heap.size := (Array.getElem?_eq_some_iff.1 HIT.out).1
  by_cases hp : pos < a0.size
  ·have hc := HA.out pos hp
   have hnx : ∀ ty, (Instr.next (.pointer (some ⟨w.heap.size + 1, 0, none⟩)) true ty).run Tryd.prog wr = _ := fun ty => Lib.run_next_ascii_at wr (w.heap.size + 1) a0 pos ty HIT.out hp hc
   have HM : Aside0 (wr.iterPos (w.heap.size + 1) = pos) := ⟨by simp only [World.iterPos]; rw [show wr.heap[w.heap.size + 1]? = _ from HIT.out]⟩
   have HI2 : Aside0 (BIs w.heap.size w.heap.size acc (wr.iterAt (w.heap.size + 1) a0 (pos + 1))) := ⟨Lib.IsBuilderF.iterAt HI.out HIT.out _⟩
   have HIT2 : Aside0 (ItAtC (wr.iterAt (w.heap.size + 1) a0 (pos + 1)) (w.heap.size + 1) a0 (pos + 1)) := ⟨Lib.iterAt_heap wr _ a0 pos _ HIT.out⟩
   have HB2 : Aside0 (Below w.heap.size w (wr.iterAt (w.heap.size + 1) a0 (pos + 1))) := ⟨Lib.below_iterAt HB.out (by omega) _ _⟩
   have hs2 : w.heap.size ≤ (wr.iterAt (w.heap.size + 1) a0 (pos + 1)).heap.size := by rw [Lib.iterAt_size]; omega
   have HD : Aside0 (a0.data.toList.drop pos = a0[pos] :: a0.data.toList.drop (pos + 1)) := ⟨List.drop_eq_getElem_cons (show pos < a0.data.toList.length by simpa using hp)⟩
   by_cases h46 : a0[pos] = 46
   ·have t46 : ((a0[pos].toNat : Int) == 46) = true := by rw [h46]; rfl
    have HV2 : Aside0 ((acc ++ [46]) ++ canonL (a0.data.toList.drop (pos + 1)) false pd = canonL a0.data.toList false true) := ⟨by rw [← HV.out, HD.out, h46, canon_dot, List.append_assoc]; rfl⟩
    clear h46
    go_wp2_with (go_at_call 82; refine (Bd.writeString w.heap.size w.heap.size _ _ _ HI2.out (by rw [Lib.byteCells_length]; simp [ByteArray.size]; omega) hs2).mono ?_)
    rintro e W1 ⟨rfl, h1, b1, k1⟩
    have HI3 := Aside0.mk (BIs.dot h1)
    have HIT3 : Aside0 (ItAtC W1 (w.heap.size + 1) a0 (pos + 1)) := ⟨k1.iter HIT2.out (by omega)⟩
    have HB3 := Aside0.mk (HB2.out.trans b1)
    clear h1 b1 k1
    go_wp2
    go_roundw
    case rel => exact ⟨pos + 1, acc ++ [46], false, pd, rfl, rfl, HI3, HIT3, HB3, HV2, by simp; omega, by omega⟩
    case measure =>
     have h2 : W1.iterPos (w.heap.size + 1) = pos + 1 := by simp only [World.iterPos]; rw [show W1.heap[w.heap.size + 1]? = _ from HIT3.out]
     rw [h2, HM.out]
     omega
   ·have t46 : ((a0[pos].toNat : Int) == 46) = false := by
     rw [beq_eq_false_iff_ne]
     intro hh
     exact h46 (UInt8.toNat_inj.1 (by have : (46 : UInt8).toNat = 46 := rfl; omega))
    cases h2 : (cp && (pd != digC a0[pos])) with
    | true =>
     obtain ⟨rfl, hpd⟩ : cp = true ∧ (pd != digC a0[pos]) = true := by simpa using h2
     have HV2 : Aside0 (((acc ++ [46]) ++ [a0[pos]]) ++ canonL (a0.data.toList.drop (pos + 1)) true (digC a0[pos]) = canonL a0.data.toList false true) := ⟨by rw [← HV.out, HD.out, canon_two _ _ _ _ h46 h2]; simp⟩
     have hpd2 : (!pd == digC a0[pos]) = true := (bne_turn _ _).symm.trans hpd
     clear h2 h46
     go_wp2_with (first | (go_at_call 83; refine (isDigC _ _).mono ?_; rintro e w' ⟨rfl, rfl⟩) | (go_at_call 82; refine (Bd.writeString w.heap.size w.heap.size _ _ _ HI2.out (by rw [Lib.byteCells_length]; simp [ByteArray.size]; omega) hs2).mono ?_))
     rintro e W1 ⟨rfl, h1, b1, k1⟩
     have HI3 := Aside0.mk (BIs.dot h1)
     have HIT3 : Aside0 (ItAtC W1 (w.heap.size + 1) a0 (pos + 1)) := ⟨k1.iter HIT2.out (by omega)⟩
     have HB3 := Aside0.mk (HB2.out.trans b1)
     have hs3 : w.heap.size ≤ W1.heap.size := Nat.le_trans hs2 b1.size
     clear h1 b1 k1
     go_wp2_with (go_at_call 84; refine (Bd.writeRune w.heap.size w.heap.size _ a0[pos].toNat hc _ HI3.out (by rw [Lib.byteCells_length]; simp; omega) hs3).mono ?_)
     rintro e W2 ⟨rfl, h1, b1, k1⟩
     have HI4 := Aside0.mk (BIs.step h1)
     have HIT4 : Aside0 (ItAtC W2 (w.heap.size + 1) a0 (pos + 1)) := ⟨k1.iter HIT3.out (by omega)⟩
     have HB4 := Aside0.mk (HB3.out.trans b1)
     clear h1 b1 k1
     go_wp2
     go_roundw
     case rel => exact ⟨pos + 1, acc ++ [46] ++ [a0[pos]], true, digC a0[pos], rfl, rfl, HI4, HIT4, HB4, HV2, by simp; omega, by omega⟩
     case measure =>
      have h2 : W2.iterPos (w.heap.size + 1) = pos + 1 := by simp only [World.iterPos]; rw [show W2.heap[w.heap.size + 1]? = _ from HIT4.out]
      rw [h2, HM.out]
      omega
    | false =>
     have HV2 : Aside0 ((acc ++ [a0[pos]]) ++ canonL (a0.data.toList.drop (pos + 1)) true (digC a0[pos]) = canonL a0.data.toList false true) := ⟨by rw [← HV.out, HD.out, canon_one _ _ _ _ h46 h2]; simp⟩
     clear h46
     cases cp with
     | false =>
      clear h2
      go_wp2_with (first | (go_at_call 83; refine (isDigC _ _).mono ?_; rintro e w' ⟨rfl, rfl⟩) | (go_at_call 84; refine (Bd.writeRune w.heap.size w.heap.size _ a0[pos].toNat hc _ HI2.out (by rw [Lib.byteCells_length]; omega) hs2).mono ?_))
      rintro e W2 ⟨rfl, h1, b1, k1⟩
      have HI4 := Aside0.mk (BIs.step h1)
      have HIT4 : Aside0 (ItAtC W2 (w.heap.size + 1) a0 (pos + 1)) := ⟨k1.iter HIT2.out (by omega)⟩
      have HB4 := Aside0.mk (HB2.out.trans b1)
      clear h1 b1 k1
      go_wp2
      go_roundw
      case rel => exact ⟨pos + 1, acc ++ [a0[pos]], true, digC a0[pos], rfl, rfl, HI4, HIT4, HB4, HV2, by simp; omega, by omega⟩
      case measure =>
       have h2 : W2.iterPos (w.heap.size + 1) = pos + 1 := by simp only [World.iterPos]; rw [show W2.heap[w.heap.size + 1]? = _ from HIT4.out]
       rw [h2, HM.out]
       omega
     | true =>
      have hpd2 : (!pd == digC a0[pos]) = false := (bne_turn _ _).symm.trans (by simpa using h2)
      clear h2
      go_wp2_with (first | (go_at_call 83; refine (isDigC _ _).mono ?_; rintro e w' ⟨rfl, rfl⟩) | (go_at_call 84; refine (Bd.writeRune w.heap.size w.heap.size _ a0[pos].toNat hc _ HI2.out (by rw [Lib.byteCells_length]; omega) hs2).mono ?_))
      rintro e W2 ⟨rfl, h1, b1, k1⟩
      have HI4 := Aside0.mk (BIs.step h1)
      have HIT4 : Aside0 (ItAtC W2 (w.heap.size + 1) a0 (pos + 1)) := ⟨k1.iter HIT2.out (by omega)⟩
      have HB4 := Aside0.mk (HB2.out.trans b1)
      clear h1 b1 k1
      go_wp2
      go_roundw
      case rel => exact ⟨pos + 1, acc ++ [a0[pos]], true, digC a0[pos], rfl, rfl, HI4, HIT4, HB4, HV2, by simp; omega, by omega⟩
      case measure =>
       have h2 : W2.iterPos (w.heap.size + 1) = pos + 1 := by simp only [World.iterPos]; rw [show W2.heap[w.heap.size + 1]? = _ from HIT4.out]
       rw [h2, HM.out]
       omega
  ·have hnx : ∀ ty, (Instr.next (.pointer (some ⟨w.heap.size + 1, 0, none⟩)) true ty).run Tryd.prog wr = _ := fun ty => Lib.run_next_end_at wr (w.heap.size + 1) a0 pos ty HIT.out hp
   have HV2 : Aside0 (acc = canonL a0.data.toList false true) := ⟨by rw [← HV.out, List.drop_of_length_le (by simp; omega)]; simp [canonL]⟩
   go_wp2_with (go_at_call 85; refine (Tryd.Builder_String_any_k w.heap.size w.heap.size acc _ HI.out (by omega)).mono ?_)
   rintro e W1 ⟨rfl, _, b1, _⟩
   have HB3 := Aside0.mk (HB.out.trans b1)
   clear b1
   have hrr := HR.out
   rw [← HV2.out] at hrr
   subst hrr
   go_wp2
   go_ret
   exact ⟨rfl, HB3.out⟩

end Go.Proofs.YtmhlmkefnmdbcaaDoor.Z
