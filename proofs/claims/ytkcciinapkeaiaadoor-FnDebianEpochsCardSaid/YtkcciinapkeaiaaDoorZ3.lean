-- Written by a program of this session (myprint.py).
import Derived.Test.YtkcciinapkeaiaaDoorZ0
import Derived.Lib.OthersKept
import Derived.Laws.RangeString
import Derived.Laws.RangeAny
import Derived.Test.YtkcciinapkeaiaaDoorEv
import Derived.Test.YtkcciinapkeaiaaDoorGe
namespace Go.Proofs.YtkcciinapkeaiaaDoor.Z
open Go.Proofs.YtkcciinapkeaiaaDoor.Gw
open Go.RowKit Go.Proofs.YtkcciinapkeaiaaDoorW.PrintWords Go.Proofs.YtkcciinapkeaiaaDoorW.PrintLast Go.Proofs.YtkcciinapkeaiaaDoorW.PrintMore
attribute [local go_sem high] Go.Proofs.YtkcciinapkeaiaaDoor.Ge.gtr_str
attribute [local go_sem] max2_int min2_int max_two min_two max_three min_three max_four min_four   -- for this text's walks alone
set_option linter.unusedVariables false
set_option linter.unusedSimpArgs false

-- PLUGGED semantic_zzIndexAny: function 77 (a text of this session)
/-- Are a text's bytes below 128? -/
def ascB (s : ByteArray) : Bool := decide (∀ i : Nat, (h : i < s.size) → (s[i]'h).toNat < 128)
theorem ascB_of {s : ByteArray} (h : ascB s = true) : ∀ i : Nat, (hi : i < s.size) → (s[i]'hi).toNat < 128 := of_decide_eq_true h
/-- Is byte i of s one of chars? -/
def hasB (chars : ByteArray) (c : UInt8) : Bool := chars.data.toList.contains c
/-- The place of the first byte from i on that is one of chars (d: how many are left). -/
def idxAny (s chars : ByteArray) : Nat → Nat → Int
  | 0, _ => -1
  | d + 1, i => if h : i < s.size then (if hasB chars s[i] then (i : Int) else idxAny s chars d (i + 1)) else -1
def semantic_zzIndexAny.f (a0 a1 : ByteArray) : Option Int := if ascB a0 && ascB a1 && decide (a0.size ≤ 140737488351232) && decide (a1.size ≤ 140737488351232) then some (idxAny a0 a1 a0.size 0) else none
theorem hasB_at {chars : ByteArray} {c : UInt8} (j : Nat) (h : j < chars.size) (e : chars[j] = c) : hasB chars c = true := by
  unfold hasB
  rw [List.contains_iff_mem]
  have : chars.data.toList[j]? = some c := by
    rw [Array.getElem?_toList, Array.getElem?_eq_getElem (show j < chars.data.size from h)]
    exact congrArg some e
  exact List.mem_of_getElem? this
theorem hasB_none {chars : ByteArray} {c : UInt8} (h : ∀ j : Nat, (hj : j < chars.size) → chars[j] ≠ c) : hasB chars c = false := by
  unfold hasB
  cases e : chars.data.toList.contains c with
  | false => rfl
  | true =>
    rw [List.contains_iff_mem] at e
    obtain ⟨j, hj⟩ := List.getElem?_of_mem e
    obtain ⟨h1, h2⟩ := List.getElem?_eq_some_iff.1 hj
    exact absurd (show chars[j]'(by simpa using h1) = c from by rw [← h2]; rfl) (h j (by simpa using h1))
theorem idxAny_end (s chars : ByteArray) (d i : Nat) (h : ¬ i < s.size) : idxAny s chars d i = -1 := by
  cases d with
  | zero => rfl
  | succ d => simp [idxAny, h]
/-- What a loop's relation says of a text's iterator. -/
def ItAt (w : World) (k : Nat) (s : ByteArray) (pos : Nat) : Prop := w.heap[k]? = some (.stringIter s pos)
set_option maxHeartbeats 4000000 in
set_option maxRecDepth 100000 in
theorem semantic_zzIndexAny.calls (a0 a1 : ByteArray) (r : Int) (w : World) (h : semantic_zzIndexAny.f a0 a1 = some r) :
    Calls Tryd.prog 77 #[.string a0, .string a1] w fun e w' => e = .returned (.int .i64 r) ∧ Below w.heap.size w w' := by
  obtain ⟨ha0, ha1, hs0, hs1, hr⟩ : ascB a0 = true ∧ ascB a1 = true ∧ a0.size ≤ 140737488351232 ∧ a1.size ≤ 140737488351232 ∧ r = idxAny a0 a1 a0.size 0 := by
    unfold semantic_zzIndexAny.f at h
    split at h
    · rename_i hc
      simp only [Bool.and_eq_true, decide_eq_true_eq] at hc
      exact ⟨hc.1.1.1, hc.1.1.2, hc.1.2, hc.2, (Option.some.inj h).symm⟩
    · cases h
  have HR := Aside0.mk hr
  have HA0 := Aside0.mk (ascB_of ha0)
  have HA1 := Aside0.mk (ascB_of ha1)
  clear h hr ha0 ha1
  go_enter Tryd.func77, Tryd.ntmps77
  go_wp2
  go_loopw [] (fun wr => ∃ pos d : Nat, Aside0 (ItAt wr w.heap.size a0 pos) ∧ Aside0 (Below w.heap.size w wr) ∧ Aside0 (idxAny a0 a1 d pos = r) ∧ pos ≤ a0.size ∧ a0.size ≤ pos + d) (fun wr => a0.size - wr.iterPos w.heap.size)
  case atStart =>
    exact ⟨0, a0.size, ⟨World.iter_heap w a0 0⟩, ⟨(Below.refl _ _).alloc (Nat.le_refl _) _⟩, ⟨HR.out.symm⟩, by omega, by omega⟩
  case round =>
    obtain ⟨pos, d, HI, HB, HV, hpl, hfu⟩ := hrel
    have hsz : w.heap.size < wr.heap.size := (Array.getElem?_eq_some_iff.1 HI.out).1
    by_cases hp : pos < a0.size
    · have hc := HA0.out pos hp
      have hnx : ∀ ty, (Instr.next (.pointer (some ⟨w.heap.size, 0, none⟩)) true ty).run Tryd.prog wr = _ := fun ty => Lib.run_next_ascii_at wr w.heap.size a0 pos ty HI.out hp hc
      have HI2 : Aside0 (ItAt (wr.iterAt w.heap.size a0 (pos + 1)) w.heap.size a0 (pos + 1)) := ⟨Lib.iterAt_heap wr w.heap.size a0 pos (pos + 1) HI.out⟩
      have HB2 : Aside0 (Below w.heap.size w (wr.iterAt w.heap.size a0 (pos + 1))) := ⟨Lib.below_iterAt HB.out (Nat.le_refl _) _ _⟩
      have hs2 : w.heap.size < (wr.iterAt w.heap.size a0 (pos + 1)).heap.size := by rw [Lib.iterAt_size]; exact hsz
      obtain ⟨d, rfl⟩ : ∃ f, d = f + 1 := ⟨d - 1, by omega⟩
      have HM : Aside0 (wr.iterPos w.heap.size = pos) := ⟨by simp only [World.iterPos]; rw [show wr.heap[w.heap.size]? = _ from HI.out]⟩
      go_wp2
      generalize hwo : wr.iterAt w.heap.size a0 (pos + 1) = wo at HI2 HB2 hs2
      go_loopw [] (fun wi => ∃ j : Nat, Aside0 (ItAt wi wo.heap.size a1 j) ∧ Aside0 (Below wo.heap.size wo wi) ∧ Aside0 (∀ i : Nat, i < j → (hi : i < a1.size) → a1[i] ≠ a0[pos]) ∧ j ≤ a1.size) (fun wi => a1.size - wi.iterPos wo.heap.size)
      case atStart =>
        exact ⟨0, ⟨World.iter_heap _ a1 0⟩, ⟨(Below.refl _ _).alloc (Nat.le_refl _) _⟩, ⟨fun i hi => by omega⟩, by omega⟩
      case round =>
        obtain ⟨j, HJ, HB3, HN, hjl⟩ := hrel
        have hsi : wo.heap.size < wr.heap.size := (Array.getElem?_eq_some_iff.1 HJ.out).1
        have HBW : Aside0 (Below w.heap.size w wr) := ⟨HB2.out.trans (HB3.out.mono (by omega))⟩
        have HIW : Aside0 (ItAt wr w.heap.size a0 (pos + 1)) := ⟨(HB3.out.block _ hs2).trans HI2.out⟩
        by_cases hj : j < a1.size
        · have hcj := HA1.out j hj
          have hnx : ∀ ty, (Instr.next (.pointer (some ⟨wo.heap.size, 0, none⟩)) true ty).run Tryd.prog wr = _ := fun ty => Lib.run_next_ascii_at wr wo.heap.size a1 j ty HJ.out hj hcj
          by_cases he : a1[j] = a0[pos]
          · have ht : ((a0[pos].toNat : Int) == (a1[j].toNat : Int)) = true := by rw [he]; exact beq_self_eq_true _
            have HBX : Aside0 (Below w.heap.size w (wr.iterAt wo.heap.size a1 (j + 1))) := ⟨Lib.below_iterAt HBW.out (by omega) _ _⟩
            have hrv : r = (pos : Int) := by
              rw [← HV.out]
              simp [idxAny, hp, hasB_at j hj he]
            subst hrv
            go_wp2
            go_ret
            exact ⟨rfl, HBX.out⟩
          · have ht : ((a0[pos].toNat : Int) == (a1[j].toNat : Int)) = false := by
              rw [beq_eq_false_iff_ne]
              intro hh
              exact he (UInt8.toNat_inj.1 (by omega))
            go_wp2
            go_roundw
            case rel =>
              refine ⟨j + 1, ⟨Lib.iterAt_heap wr wo.heap.size a1 j (j + 1) HJ.out⟩, ⟨Lib.below_iterAt HB3.out (Nat.le_refl _) _ _⟩, ⟨fun i hi hi2 => ?_⟩, by omega⟩
              by_cases e : i = j
              · subst e; exact he
              · exact HN.out i (by omega) hi2
            case measure =>
              have h1 : wr.iterPos wo.heap.size = j := by simp only [World.iterPos]; rw [show wr.heap[wo.heap.size]? = _ from HJ.out]
              have h2 : (wr.iterAt wo.heap.size a1 (j + 1)).iterPos wo.heap.size = j + 1 := by simp only [World.iterPos]; rw [Lib.iterAt_heap wr wo.heap.size a1 j (j + 1) HJ.out]
              rw [h1, h2]
              omega
        · have hnx : ∀ ty, (Instr.next (.pointer (some ⟨wo.heap.size, 0, none⟩)) true ty).run Tryd.prog wr = _ := fun ty => Lib.run_next_end_at wr wo.heap.size a1 j ty HJ.out hj
          have hno := hasB_none (chars := a1) (c := a0[pos]) (fun i hi => HN.out i (by omega) hi)
          have HV2 : Aside0 (idxAny a0 a1 d (pos + 1) = r) := ⟨by rw [← HV.out]; simp [idxAny, hp, hno]⟩
          clear hno
          go_wp2
          go_roundw
          case rel => exact ⟨pos + 1, d, HIW, HBW, HV2, by omega, by omega⟩
          case measure =>
            have h2 : wr.iterPos w.heap.size = pos + 1 := by simp only [World.iterPos]; rw [show wr.heap[w.heap.size]? = _ from HIW.out]
            rw [h2, HM.out]
            omega
    · have hnx : ∀ ty, (Instr.next (.pointer (some ⟨w.heap.size, 0, none⟩)) true ty).run Tryd.prog wr = _ := fun ty => Lib.run_next_end_at wr w.heap.size a0 pos ty HI.out hp
      have HV2 : r = -1 := by rw [← HV.out]; exact idxAny_end _ _ _ _ hp
      subst HV2
      go_wp2
      go_ret
      exact ⟨rfl, HB.out⟩

end Go.Proofs.YtkcciinapkeaiaaDoor.Z
