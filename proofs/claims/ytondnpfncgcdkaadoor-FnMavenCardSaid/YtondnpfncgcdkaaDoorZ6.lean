-- Written by a program of this session (myprint.py).
import Derived.Test.YtondnpfncgcdkaaDoorZ0
import Derived.Test.YtondnpfncgcdkaaDoorGe
namespace Go.Proofs.YtondnpfncgcdkaaDoor.Z
open Go.Proofs.YtondnpfncgcdkaaDoor.Gw
open Go.RowKit Go.Proofs.YtondnpfncgcdkaaDoorW.PrintWords Go.Proofs.YtondnpfncgcdkaaDoorW.PrintLast Go.Proofs.YtondnpfncgcdkaaDoorW.PrintMore
attribute [local go_sem high] Go.Proofs.YtondnpfncgcdkaaDoor.Ge.gtr_str
attribute [local go_sem] max2_int min2_int max_two min_two max_three min_three max_four min_four   -- for this text's walks alone
set_option linter.unusedVariables false
set_option linter.unusedSimpArgs false

-- PLUGGED semantic_findKeywordOrder: function 47 (a text of this session)
/-- The place of a word among words, from place i on. -/
def kwFrom (s : ByteArray) : List ByteArray → Nat → Int
  | [], i => (i : Int)
  | k :: l, i => if k.toList == s.toList then (i : Int) else kwFrom s l (i + 1)
def semantic_findKeywordOrder.f (a0 : ByteArray) : Option Int := some (kwFrom a0 Gw.kws 0)
theorem kw_drop (s : ByteArray) (i : Nat) (h : i < 7) : kwFrom s (Gw.kws.drop i) i = if (Gw.kwAt i).toList == s.toList then (i : Int) else kwFrom s (Gw.kws.drop (i + 1)) (i + 1) := by
  have hl : Gw.kws.length = 7 := rfl
  rw [List.drop_eq_getElem_cons (by omega)]
  simp only [kwFrom, Gw.kwAt, List.getD_eq_getElem?_getD, List.getElem?_eq_getElem (show i < Gw.kws.length by omega), Option.getD_some]
set_option maxHeartbeats 1000000 in
set_option maxRecDepth 100000 in
theorem semantic_findKeywordOrder.calls (a0 : ByteArray) (r : Int) (w : World) (hG : GW w) (h : semantic_findKeywordOrder.f a0 = some r) :
    Calls Tryd.prog 47 #[.string a0] w fun e w' => e = .returned (.int .i64 r) ∧ Drawn0 w w' := by
  obtain ⟨a, c, hv, hcells⟩ := Gw.kw hG
  have HC := Aside0.mk hcells
  have HV := Aside0.mk (Option.some.inj h)
  clear h hcells
  go_enter Tryd.func47, Tryd.ntmps47
  go_wp2
  go_loop [7] (fun v => ∃ i : Nat, i ≤ 7 ∧ v = .int .i64 i ∧ Aside0 (kwFrom a0 (Gw.kws.drop i) i = r)) (fun v => 7 - (intOf v).toNat)
  case atStart => exact ⟨0, by omega, rfl, HV⟩
  case round =>
    obtain ⟨i, hi, rfl, HR⟩ := hrel
    by_cases hlt : i < 7
    · have hcell := HC.out i hlt
      have HD := Aside0.mk (kw_drop a0 i hlt)
      by_cases he : ((Gw.kwAt i).toList == a0.toList) = true
      · have hr : (i : Int) = r := by rw [← HR.out, HD.out, if_pos he]
        subst hr
        go_wp2
        go_ret
        exact ⟨rfl, Drawn0.refl _⟩
      · have he' : ((Gw.kwAt i).toList == a0.toList) = false := by simpa using he
        clear he
        have HR2 : Aside0 (kwFrom a0 (Gw.kws.drop (i + 1)) (i + 1) = r) := ⟨by rw [← HR.out, HD.out, if_neg (by rw [he']; decide)]⟩
        go_wp2
        go_round
        case rel => exact ⟨i + 1, by omega, by go_num, HR2⟩
        case measure => simp [intOf]; omega
    · have : i = 7 := by omega
      subst this
      have hr : (7 : Int) = r := by rw [← HR.out]; rfl
      subst hr
      go_wp2
      go_ret
      exact ⟨rfl, Drawn0.refl _⟩

end Go.Proofs.YtondnpfncgcdkaaDoor.Z
