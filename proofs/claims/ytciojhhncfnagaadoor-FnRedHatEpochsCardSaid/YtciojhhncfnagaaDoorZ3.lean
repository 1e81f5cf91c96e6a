-- Written by a program of this session (myprint.py).
import Derived.Test.YtciojhhncfnagaaDoorZ0
import Derived.Test.YtciojhhncfnagaaDoorRh
import Derived.Test.YtciojhhncfnagaaDoorGe
namespace Go.Proofs.YtciojhhncfnagaaDoor.Z
open Go.RowKit Go.Proofs.YtciojhhncfnagaaDoorW.PrintWords Go.Proofs.YtciojhhncfnagaaDoorW.PrintLast Go.Proofs.YtciojhhncfnagaaDoorW.PrintMore
attribute [local go_sem high] Go.Proofs.YtciojhhncfnagaaDoor.Ge.gtr_str
attribute [local go_sem] max2_int min2_int max_two min_two max_three min_three max_four min_four   -- for this text's walks alone
set_option linter.unusedVariables false
set_option linter.unusedSimpArgs false

-- PLUGGED semantic_isOnlyDigits: function 36 (a text of this session)
open Go.Proofs.YtciojhhncfnagaaDoor Go.Proofs.YtciojhhncfnagaaDoor.Rh
def semantic_isOnlyDigits.f (a0 : ByteArray) : Option Bool := if a0.size ≤ 140737488351 then some ((By.bl a0).all By.dg) else none
theorem od_low (l : List UInt8) (t : Nat) (h : t < l.length) (h1 : (l.take t).all By.dg = true) (h2 : By.dg l[t] = true) : (l.take (t + 1)).all By.dg = true := by
  rw [List.take_succ_eq_append_getElem h, List.all_append, h1]
  simp [h2]
theorem od_no (l : List UInt8) (t : Nat) (h : t < l.length) (h2 : By.dg l[t] = false) : l.all By.dg = false := by
  rw [← Bool.not_eq_true]
  intro h3
  have := List.all_eq_true.1 h3 l[t] (List.getElem_mem h)
  rw [h2] at this
  cases this
set_option maxHeartbeats 4000000 in
theorem semantic_isOnlyDigits.calls (a0 : ByteArray) (r : Bool) (w : World) (h : semantic_isOnlyDigits.f a0 = some r) :
    Calls Tryd.prog 36 #[.string a0] w fun e w' => e = .returned (.bool r) ∧ Below w.heap.size w w' := by
  obtain ⟨hs0, hr⟩ : a0.size ≤ 140737488351 ∧ r = (By.bl a0).all By.dg := by
    unfold semantic_isOnlyDigits.f at h
    split at h
    · exact ⟨‹_›, (Option.some.inj h).symm⟩
    · cases h
  have HR := Aside0.mk hr
  clear h hr
  go_enter Tryd.func36, Tryd.ntmps36
  go_wp2
  go_loopw [] (fun wr => ∃ t : Nat, Aside0 (RItAt wr w.heap.size a0 t) ∧ Aside0 (Below w.heap.size w wr) ∧ Aside0 (((By.bl a0).take t).all By.dg = true) ∧ t ≤ a0.size) (fun wr => a0.size - wr.iterPos w.heap.size)
  case atStart => exact ⟨0, ⟨World.iter_heap w a0 0⟩, ⟨(Below.refl _ _).alloc (Nat.le_refl _) _⟩, ⟨rfl⟩, by omega⟩
  case round =>
    obtain ⟨t, HI, HB, HV, ht⟩ := hrel
    have HM := Aside0.mk HI.out.pos
    by_cases hlt : t < a0.size
    · cases hq : By.dg a0[t] with
      | true =>
        have hlow : a0[t].toNat < 128 := dg_low hq
        have hnx : ∀ ty, (Instr.next (.pointer (some ⟨w.heap.size, 0, none⟩)) true ty).run Tryd.prog wr = _ := fun ty => Lib.run_next_ascii_at wr w.heap.size a0 t ty HI.out hlt hlow
        have HFC : Aside0 (∀ W, Calls Tryd.prog 44 #[.int .i32 (a0[t].toNat : Int)] W fun e w' => e = .returned (.bool true) ∧ W = w') := ⟨fun W => (rh_isDig (a0[t].toNat : Int) W).mono fun e w' ⟨h1, h2⟩ => ⟨by rw [h1, rDig_b, hq], h2.symm⟩⟩
        have HV2 : Aside0 (((By.bl a0).take (t + 1)).all By.dg = true) := ⟨od_low _ t (by rw [By.bl_length]; exact hlt) HV.out hq⟩
        have HI2 : Aside0 (RItAt (wr.iterAt w.heap.size a0 (t + 1)) w.heap.size a0 (t + 1)) := ⟨Lib.iterAt_heap wr w.heap.size _ t _ HI.out⟩
        have HB2 : Aside0 (Below w.heap.size w (wr.iterAt w.heap.size a0 (t + 1))) := ⟨Lib.below_iterAt HB.out (Nat.le_refl _) _ _⟩
        clear hq hlow HI HB HV
        go_wp2_with (go_at_call 44; (with_reducible refine (HFC.out _).mono ?_); rintro e w' ⟨rfl, rfl⟩)
        go_roundw
        case rel => exact ⟨t + 1, HI2, HB2, HV2, by omega⟩
        case measure =>
          rw [HM.out, HI2.out.pos]
          omega
      | false =>
        have hcq : rDig (a0[t].toNat : Int) = false := by rw [rDig_b]; exact hq
        obtain ⟨c, pos', hcc, hnx⟩ := rh_next rDig rDig_high a0 t wr w.heap.size HI.out hlt hcq
        have HFC : Aside0 (∀ W, Calls Tryd.prog 44 #[.int .i32 c] W fun e w' => e = .returned (.bool false) ∧ W = w') := ⟨fun W => (rh_isDig c W).mono fun e w' ⟨h1, h2⟩ => ⟨by rw [h1, hcc], h2.symm⟩⟩
        have HB2 : Aside0 (Below w.heap.size w (wr.iterAt w.heap.size a0 pos')) := ⟨Lib.below_iterAt HB.out (Nat.le_refl _) _ _⟩
        have HE : Aside0 (r = false) := ⟨by rw [HR.out]; exact od_no _ t (by rw [By.bl_length]; exact hlt) hq⟩
        clear hq hcq hcc HI HB HV HR
        go_wp2_with (go_at_call 44; (with_reducible refine (HFC.out _).mono ?_); rintro e w' ⟨rfl, rfl⟩)
        go_ret
        exact ⟨by rw [HE.out]; first | rfl | trivial, HB2.out⟩
    · have hnx : ∀ ty, (Instr.next (.pointer (some ⟨w.heap.size, 0, none⟩)) true ty).run Tryd.prog wr = _ := fun ty => Lib.run_next_end_at wr w.heap.size a0 t ty HI.out (by omega)
      have HE : Aside0 (r = true) := ⟨by
        have := HV.out
        rw [List.take_of_length_le (by rw [By.bl_length]; omega)] at this
        rw [HR.out, this]⟩
      clear HI HV HR
      go_wp2
      go_ret
      exact ⟨by rw [HE.out]; first | rfl | trivial, HB.out⟩

end Go.Proofs.YtciojhhncfnagaaDoor.Z
