/- Numbers read from texts: blocks of words, multiply and add, the reader, the sign, the digits. -/
import Derived.Test.YtipfmkfpaglkkaaGreatDoorProg
import Derived.Below
import Derived.Deep.Draws
import Derived.Deep.AppendLies
import Derived.Maps.AppendAt
import Derived.OwnWalk
import Derived.Laws.BytesArg
import Derived.Laws.MakeOwn
import Derived.Laws.OwnMore
import Derived.Deep.OwnRows
import Derived.Tactics
import Derived.Lib.ConvBytes
import Derived.Laws.Slices
import Derived.WalkKit
import Derived.KernelRfl
import Derived.RowKit3
import Derived.Deep.LoopGhost
import Derived.Deep.QuietTactic
import Derived.BigQuiet
import Derived.WideLaws
import Derived.Deep.DeepCutAuto
import Derived.Deep.CutBlock
import Derived.Deep.RegionHeld3
import Derived.Laws.Rows
import Derived.Lib.AppendStr
import Derived.ArgAppend
import Derived.Laws.IdiomCopy
import Derived.OrdersHeld
import Derived.Laws.BitsLemmas
import Derived.RowKit
import Derived.Test.YtipfmkfpaglkkaaGreatDoorWW
import Derived.Test.YtipfmkfpaglkkaaGreatDoorGe
import Derived.Test.YtipfmkfpaglkkaaGreatDoorBg
import Derived.Test.YtipfmkfpaglkkaaGreatDoorBn
import Derived.Test.YtipfmkfpaglkkaaGreatDoorBy
import Derived.Test.YtipfmkfpaglkkaaGreatDoorBv
import Derived.Test.YtipfmkfpaglkkaaGreatDoorShelf
import Derived.Laws.Externs
import Derived.Lib.Builder
import Derived.LaidEqlPtr
import Derived.Outline
import Derived.Test.YtipfmkfpaglkkaaGreatDoorGb
namespace Go.Proofs.YtipfmkfpaglkkaaGreatDoor.Ss
open Go Go.RowKit Go.Proofs.YtipfmkfpaglkkaaGreatDoorW.PrintWords Go.Proofs.YtipfmkfpaglkkaaGreatDoorW.PrintLast Go.Proofs.YtipfmkfpaglkkaaGreatDoorW.PrintMore
attribute [local go_sem high] Go.Proofs.YtipfmkfpaglkkaaGreatDoor.Ge.gtr_str
attribute [local go_sem] max2_int min2_int max_two min_two max_three min_three max_four min_four
set_option linter.unusedVariables false
set_option linter.unusedSimpArgs false

/-! a block of words, known whole -/
def wcells (cur : List Int) : Array Value := (cur.map (Value.int .u64)).toArray
def Buf (g : Nat) (cur : List Int) (w : World) : Prop := w.heap[g]? = some (.cells (wcells cur) Big.TW (0, 0))
theorem wcells_get (cur : List Int) (i : Nat) (h : i < cur.length) : (wcells cur)[i]? = some (Value.int .u64 cur[i]) := by
  unfold wcells
  rw [List.getElem?_toArray, List.getElem?_map, List.getElem?_eq_getElem h]
  rfl
theorem Buf.cell {g : Nat} {cur : List Int} {w : World} (h : Buf g cur w) (i : Nat) (hi : i < cur.length) : w.cell? ⟨g, i, none⟩ = some (.int .u64 cur[i]) :=
  (blk_cell h i).trans (wcells_get cur i hi)
theorem Buf.frozen {g : Nat} {cur : List Int} {w : World} (h : Buf g cur w) (i : Nat) : w.frozen? ⟨g, i, none⟩ = false := blk_frozen h i
theorem Buf.lt {g : Nat} {cur : List Int} {w : World} (h : Buf g cur w) : g < w.heap.size := (Array.getElem?_eq_some_iff.1 h).1
theorem Buf.put {g : Nat} {cur : List Int} {w : World} (h : Buf g cur w) (i : Nat) (x : Int) : Buf g (cur.set i x) (w.setCell ⟨g, i, none⟩ (.int .u64 x)) := by
  refine blk_put h i (.int .u64 x) ?_
  unfold wcells
  rw [List.map_set]
  simp
theorem Buf.move {g : Nat} {cur : List Int} {w w' : World} (h : Buf g cur w) (hk : w'.heap[g]? = w.heap[g]?) : Buf g cur w' := hk.trans h
theorem Buf.made (n : Nat) (w : World) : Buf w.heap.size (List.replicate n 0) (w.alloc (.cells (madeCells #[Value.int .u64 0] n) Big.TW)) := by
  have e : madeCells #[Value.int .u64 0] n = wcells (List.replicate n 0) := by
    apply Array.ext'
    rw [toList_madeCells_one]
    unfold wcells
    simp
  rw [e]
  exact blk_new w _
theorem Buf.R {g base : Nat} {cur : List Int} {w : World} (h : Buf g cur w) (hb : base ≤ g) (hm : cur.length ≤ maxLen) (n : Nat) (hn : n ≤ cur.length) :
    Kd.R (Kd.int .u64) Big.TW w base (fun _ => True) (.slice (some ⟨g, 0, none⟩) n cur.length) (cur.take n) := by
  have full : Kd.R (Kd.int .u64) Big.TW w base (fun _ => True) (.slice (some ⟨g, 0, none⟩) cur.length cur.length) cur := by
    refine ⟨fun _ _ => trivial, cur.map (Value.int .u64), ⟨by simp [Kd.int, Kd.scalar], .inr ⟨g, cur.length, wcells cur, rfl, hb, h, Nat.le_refl _, hm, by simp [wcells, Kd.int, Kd.scalar], by
      show List.take (cur.length * 1) (wcells cur).toList = _
      rw [Nat.mul_one]
      unfold wcells
      rw [List.take_of_length_le (by simp)]⟩⟩, by simp [Kd.int, Kd.scalar], fun j p hp => ?_⟩
    have hj : j < cur.length := (List.getElem?_eq_some_iff.1 hp).1
    have e : cur[j] = p := (List.getElem?_eq_some_iff.1 hp).2
    have e2 : ((cur.map (Value.int .u64)).drop (j * (Kd.int .u64).sz)).take (Kd.int .u64).sz = [Value.int .u64 p] := by
      show ((cur.map (Value.int .u64)).drop (j * 1)).take 1 = _
      rw [Nat.mul_one, List.drop_eq_getElem_cons (by simpa using hj)]
      simp [e]
    rw [e2]
    first | rfl | exact ⟨rfl, trivial⟩ | simp [Kd.int, Kd.scalar]
  exact Kd.R_take full hn
theorem Buf.C {g : Nat} {cur : List Int} {w : World} (h : Buf g cur w) (hm : cur.length ≤ maxLen) (n : Nat) (hn : n ≤ cur.length) : Kd.C (Kd.int .u64) w (some ⟨g, 0, none⟩) (cur.take n).length (cur.take n) :=
  (Kd.R_reads' (h.R (Nat.le_refl g) hm n hn)).2.2
/-! a word times a word -/
set_option maxHeartbeats 1000000 in
theorem ss_add (x y : Nat) (w : World) : Calls Tryz.prog 105 #[.int .u64 (x : Int), .int .u64 (y : Int), .int .u64 0] w fun e w' => e = .returned (.tuple #[.int .u64 (((x + y) % 18446744073709551616 : Nat) : Int), .int .u64 (((x + y) / 18446744073709551616 : Nat) : Int)]) ∧ w = w' := by
  have ha : ∀ W, (callFunc 109 #[.int .u64 (x : Int), .int .u64 (y : Int), .int .u64 0]).run Tryz.prog W = .ok (.value (.tuple #[.int .u64 (((x + y) % 18446744073709551616 : Nat) : Int), .int .u64 (((x + y) / 18446744073709551616 : Nat) : Int)])) W := fun W => by
    rw [run_callFunc_extern Tryz.func109 (by kernel_rfl) (by kernel_rfl) (by kernel_rfl) (e := add64Entry) (by kernel_rfl)]
    have := run_add64 (P := Tryz.prog) (x : Int) (y : Int) 0 (by omega) (by omega) (by omega) (by omega) W
    rw [this]
    simp only [Result.andThen]
    congr 5 <;> omega
  go_enter Tryz.func105, Tryz.ntmps105
  go_wp2
  go_ret2
  exact ⟨by simp, rfl⟩
set_option maxHeartbeats 1000000 in
theorem ss_mulAdd (x y c : Nat) (hx : x < 18446744073709551616) (hy : y < 18446744073709551616) (hc : c < 18446744073709551616) (w : World) : Calls Tryz.prog 103 #[.int .u64 (x : Int), .int .u64 (y : Int), .int .u64 (c : Int)] w fun e w' => e = .returned (.tuple #[.int .u64 (((x * y + c) / 18446744073709551616 : Nat) : Int), .int .u64 (((x * y + c) % 18446744073709551616 : Nat) : Int)]) ∧ w = w' := by
  have HM : Aside0 (∀ W, Calls Tryz.prog 104 #[.int .u64 (x : Int), .int .u64 (y : Int)] W fun e w' => e = .returned (.tuple #[.int .u64 ((x * y / 18446744073709551616 : Nat) : Int), .int .u64 ((x * y % 18446744073709551616 : Nat) : Int)]) ∧ W = w') := ⟨fun W => (Tryz.bits_Mul x y hx hy W).mono fun e w' ⟨h1, h2⟩ => ⟨h1, h2.symm⟩⟩
  have h1 : x * y ≤ 18446744073709551615 * 18446744073709551615 := Nat.mul_le_mul (by omega) (by omega)
  obtain ⟨p, hp⟩ : ∃ p, p = x * y := ⟨_, rfl⟩
  rw [← hp] at h1
  rw [← hp] at HM
  have HA := Aside0.mk (fun W => ss_add (p % 18446744073709551616) c W)
  have e1 : p / 18446744073709551616 + (p % 18446744073709551616 + c) / 18446744073709551616 = (p + c) / 18446744073709551616 := by omega
  have e2 : (p % 18446744073709551616 + c) % 18446744073709551616 = (p + c) % 18446744073709551616 := by omega
  have HE : Aside0 (IntKind.u64.wrap (((p / 18446744073709551616 : Nat) : Int) + (((p % 18446744073709551616 + c) / 18446744073709551616 : Nat) : Int)) = (((p + c) / 18446744073709551616 : Nat) : Int)) := ⟨by
    rw [IntKind.wrap_u64, ← e1]
    omega⟩
  rw [← hp, ← e2]
  have HE2 := Aside0.mk e1
  obtain ⟨a, ha⟩ : ∃ a, a = p / 18446744073709551616 := ⟨_, rfl⟩
  obtain ⟨b, hb⟩ : ∃ b, b = p % 18446744073709551616 := ⟨_, rfl⟩
  obtain ⟨d, hd⟩ : ∃ d, d = (b + c) / 18446744073709551616 := ⟨_, rfl⟩
  obtain ⟨f, hf⟩ : ∃ f, f = (b + c) % 18446744073709551616 := ⟨_, rfl⟩
  obtain ⟨g, hg⟩ : ∃ g, g = (p + c) / 18446744073709551616 := ⟨_, rfl⟩
  rw [← ha, ← hb] at HM
  rw [← hb, ← hd, ← hf] at HA
  rw [← ha, ← hb, ← hd, ← hg] at HE
  rw [← hg, ← hb, ← hf]
  clear hp h1 e1 e2 HE2 ha hb hd hf hg
  go_enter Tryz.func103, Tryz.ntmps103
  go_wp2_with (first | (go_at_call 104; (with_reducible refine (HM.out _).mono ?_); rintro e w' ⟨rfl, rfl⟩) | (go_at_call 105; (with_reducible refine (HA.out _).mono ?_); rintro e w' ⟨rfl, rfl⟩))
  go_ret2
  refine ⟨?_, rfl⟩
  rw [← HE.out]
  rfl

/-! a row of words times a word -/
def mvC (xs : List Nat) (y r : Nat) : Nat → Nat
  | 0 => r
  | i + 1 => (xs.getD i 0 * y + mvC xs y r i) / 18446744073709551616
def mvW (xs : List Nat) (y r : Nat) (i : Nat) : Nat := (xs.getD i 0 * y + mvC xs y r i) % 18446744073709551616
def mvL (xs : List Nat) (y r : Nat) (cz : List Int) (i : Nat) : List Int := ((List.range i).map fun k => ((mvW xs y r k : Nat) : Int)) ++ cz.drop i
theorem mvL_zero (xs : List Nat) (y r : Nat) (cz : List Int) : mvL xs y r cz 0 = cz := by simp [mvL]
theorem mvL_length (xs : List Nat) (y r : Nat) (cz : List Int) (i : Nat) (h : i ≤ cz.length) : (mvL xs y r cz i).length = cz.length := by
  simp [mvL]
  omega
theorem mvL_set (xs : List Nat) (y r : Nat) (cz : List Int) (i : Nat) (h : i < cz.length) : (mvL xs y r cz i).set i ((mvW xs y r i : Nat) : Int) = mvL xs y r cz (i + 1) := by
  unfold mvL
  rw [List.set_append, List.length_map, List.length_range, if_neg (Nat.lt_irrefl i), Nat.sub_self, List.drop_eq_getElem_cons h, List.set_cons_zero, List.range_succ]
  simp
theorem getD_lt (xs : List Nat) (hx : ∀ x ∈ xs, x < 18446744073709551616) (i : Nat) : xs.getD i 0 < 18446744073709551616 := by
  rw [List.getD_eq_getElem?_getD]
  cases h : xs[i]? with
  | none => simp
  | some v => exact hx v (List.mem_of_getElem? h)
theorem mvC_lt (xs : List Nat) (y r : Nat) (hx : ∀ x ∈ xs, x < 18446744073709551616) (hy : y < 18446744073709551616) (hr : r < 18446744073709551616) : ∀ i, mvC xs y r i < 18446744073709551616
  | 0 => hr
  | i + 1 => by
    have h := mvC_lt xs y r hx hy hr i
    have h2 := getD_lt xs hx i
    have h1 : xs.getD i 0 * y ≤ 18446744073709551615 * 18446744073709551615 := Nat.mul_le_mul (by omega) (by omega)
    show (xs.getD i 0 * y + mvC xs y r i) / 18446744073709551616 < _
    omega
theorem ss_other {w : World} {gx gz i j : Nat} {v x : Value} (hx : w.cell? ⟨gx, j, none⟩ = some v) (h : j ≠ i) : (w.setCell ⟨gz, i, none⟩ x).cell? ⟨gx, j, none⟩ = some v :=
  (World.cell?_setCell_other w _ _ x (by intro e; simp only [Addr.mk.injEq] at e; omega)).trans hx
def mvN : Value → Nat
  | .int _ n => n.toNat
  | _ => 0
def MvX (gx : Nat) (xs : List Nat) (i : Nat) (w : World) : Prop := ∀ j, i ≤ j → j < xs.length → w.cell? ⟨gx, j, none⟩ = some (.int .u64 ((xs.getD j 0 : Nat) : Int))
set_option maxHeartbeats 2000000 in
theorem ss_mulAddVWW_g (gz gx cx m base : Nat) (xs : List Nat) (cz : List Int) (y r : Nat) (hm : xs.length = m) (hcx : m ≤ cx) (hcz : m ≤ cz.length) (hxx : ∀ x ∈ xs, x < 18446744073709551616) (hy : y < 18446744073709551616) (hr : r < 18446744073709551616) (hl : cz.length ≤ maxLen) (hb : base ≤ gz) (w : World) (hX : MvX gx xs 0 w) (hZ : Buf gz cz w) :
    Calls Tryz.prog 101 #[.slice (some ⟨gz, 0, none⟩) m cz.length, .slice (some ⟨gx, 0, none⟩) m cx, .int .u64 (y : Int), .int .u64 (r : Int)] w fun e w' => e = .returned (.int .u64 ((mvC xs y r m : Nat) : Int)) ∧ Buf gz (mvL xs y r cz m) w' ∧ Below base w w' := by
  have HX := Aside0.mk hX
  have HZ := Aside0.mk hZ
  have HM := Aside0.mk hm
  have HXX := Aside0.mk hxx
  have HY := Aside0.mk hy
  have HR := Aside0.mk hr
  have HL : Aside0 (m ≤ 9223372036854775807) := ⟨by have := hl; simp only [maxLen] at this; omega⟩
  have HCZ := Aside0.mk hcz
  have HB := Aside0.mk hb
  clear hX hZ hm hxx hy hr hl hcz hb
  have hml := HL.out
  go_enter Tryz.func101, Tryz.ntmps101
  go_wp2
  go_loopw [8, 19] (fun v8 v19 wr => ∃ i : Nat, v19 = .int .i64 (i : Int) ∧ v8 = .int .u64 ((mvC xs y r i : Nat) : Int) ∧ i ≤ m ∧ Aside0 (MvX gx xs i wr) ∧ Aside0 (Buf gz (mvL xs y r cz i) wr) ∧ Aside0 (Below base w wr)) (fun v8 v19 wr => m - mvN v19)
  case atStart => exact ⟨0, rfl, rfl, Nat.zero_le _, HX, ⟨by rw [mvL_zero]; exact HZ.out⟩, ⟨Below.refl _ _⟩⟩
  case round =>
    clear HX HZ
    obtain ⟨i, rfl, rfl, hi, HX, HZ, HBe⟩ := hrel
    by_cases h : i < m
    · have hd : decide ((i : Int) < (m : Int)) = true := decide_eq_true (by omega)
      have hi0 : (0 : Int) ≤ (i : Int) := by omega
      have hi1 : (i : Int) < (m : Int) := by omega
      have hx := HX.out i (Nat.le_refl _) (by have := HM.out; omega)
      have hC := Aside0.mk (ss_mulAdd (xs.getD i 0) y (mvC xs y r i) (getD_lt xs HXX.out i) HY.out (mvC_lt xs y r HXX.out HY.out HR.out i) wr)
      have hlen := mvL_length xs y r cz i (by have := HCZ.out; omega)
      obtain ⟨cv, hcell⟩ : ∃ cv, wr.cell? ⟨gz, i, none⟩ = some cv := ⟨_, HZ.out.cell i (by rw [hlen]; have := HCZ.out; omega)⟩
      have hfrz := HZ.out.frozen i
      have hput := HZ.out.put i ((mvW xs y r i : Nat) : Int)
      rw [mvL_set xs y r cz i (by have := HCZ.out; omega)] at hput
      have HP := Aside0.mk hput
      have HB3 : Aside0 (Below base w (wr.setCell ⟨gz, i, none⟩ (.int .u64 ((mvW xs y r i : Nat) : Int)))) := ⟨HBe.out.setCell (p := ⟨gz, i, none⟩) HB.out _⟩
      have HX3 : Aside0 (MvX gx xs (i + 1) (wr.setCell ⟨gz, i, none⟩ (.int .u64 ((mvW xs y r i : Nat) : Int)))) := ⟨fun j hj hjl => ss_other (HX.out j (by omega) hjl) (by omega)⟩
      have hC2 : Aside0 (Calls Tryz.prog 103 #[.int .u64 ((xs.getD i 0 : Nat) : Int), .int .u64 (y : Int), .int .u64 ((mvC xs y r i : Nat) : Int)] wr fun e w' => e = .returned (.tuple #[.int .u64 ((mvC xs y r (i + 1) : Nat) : Int), .int .u64 ((mvW xs y r i : Nat) : Int)]) ∧ wr = w') := hC
      clear hC hput hlen
      generalize mvW xs y r i = mw at HP HB3 HX3 hC2
      obtain ⟨mc, hmc⟩ : ∃ mc, mc = mvC xs y r (i + 1) := ⟨_, rfl⟩
      have HMC := Aside0.mk hmc
      rw [← hmc] at hC2
      clear hmc
      generalize mvC xs y r i = c0 at hC2
      generalize xs.getD i 0 = x0 at hx hC2
      go_wp2_with (go_at_call 103; (with_reducible refine (hC2.out).mono ?_); rintro e w' ⟨rfl, rfl⟩)
      go_roundw
      case rel => exact ⟨i + 1, by first | rfl | (congr 1), by rw [HMC.out], by omega, HX3, HP, HB3⟩
      case measure =>
        show m - mvN _ < m - mvN _
        simp only [mvN]
        omega
    · have hd : decide ((i : Int) < (m : Int)) = false := decide_eq_false (by omega)
      obtain rfl : i = m := by omega
      go_wp2
      go_ret
      exact ⟨rfl, HZ.out, HBe.out⟩

def ni (l : List Nat) : List Int := l.map fun (n : Nat) => (n : Int)
theorem ni_length (l : List Nat) : (ni l).length = l.length := by simp [ni]
theorem ni_take (l : List Nat) (n : Nat) : (ni l).take n = ni (l.take n) := by simp [ni, List.map_take]
theorem ni_append (a b : List Nat) : ni (a ++ b) = ni a ++ ni b := by simp [ni]
theorem mv_val (xs : List Nat) (y r : Nat) : ∀ n, n ≤ xs.length → Big.natW (ni ((List.range n).map (mvW xs y r))) + 18446744073709551616 ^ n * (mvC xs y r n : Int) = Big.natW (ni (xs.take n)) * y + r
  | 0, _ => by
    show (0 : Int) + 1 * (r : Int) = 0 * y + r
    omega
  | n + 1, h => by
    have ih := mv_val xs y r n (by omega)
    have hg : xs.getD n 0 = xs[n] := by rw [List.getD_eq_getElem?_getD, List.getElem?_eq_getElem (by omega)]; rfl
    have hdm : (mvW xs y r n : Int) + 18446744073709551616 * (mvC xs y r (n + 1) : Int) = (xs[n] : Int) * y + mvC xs y r n := by
      rw [← hg]
      have e : mvW xs y r n + 18446744073709551616 * mvC xs y r (n + 1) = xs.getD n 0 * y + mvC xs y r n := by
        show (xs.getD n 0 * y + mvC xs y r n) % 18446744073709551616 + 18446744073709551616 * ((xs.getD n 0 * y + mvC xs y r n) / 18446744073709551616) = _
        omega
      have := congrArg (fun k : Nat => (k : Int)) e
      simpa using this
    have e1 : Big.natW (ni [mvW xs y r n]) = (mvW xs y r n : Int) := by simp [ni, Big.natW]
    have e2 : Big.natW (ni [xs[n]]) = (xs[n] : Int) := by simp [ni, Big.natW]
    rw [List.range_succ, List.map_append, List.map_singleton, ni_append, Bn.natW_append, ni_length, List.length_map, List.length_range, e1, ← List.take_append_getElem (by omega : n < xs.length), ni_append, Bn.natW_append, ni_length, List.length_take, Nat.min_eq_left (by omega), e2, Int.pow_succ]
    generalize (18446744073709551616 : Int) ^ n = P at ih ⊢
    generalize Big.natW (ni ((List.range n).map (mvW xs y r))) = L at ih ⊢
    generalize Big.natW (ni (xs.take n)) = X at ih ⊢
    have h3 : P * ((mvW xs y r n : Int) + 18446744073709551616 * (mvC xs y r (n + 1) : Int)) = P * ((xs[n] : Int) * y + mvC xs y r n) := by rw [hdm]
    rw [Int.mul_add, Int.mul_add] at h3
    rw [Int.add_mul, Int.mul_assoc P 18446744073709551616, Int.mul_assoc P (xs[n] : Int)]
    omega
def mw2 (ws : List Nat) (y r : Nat) : List Nat := (List.range ws.length).map (mvW ws y r) ++ [mvC ws y r ws.length]
theorem mw2_length (ws : List Nat) (y r : Nat) : (mw2 ws y r).length = ws.length + 1 := by simp [mw2]
theorem mw2_val (ws : List Nat) (y r : Nat) : Big.natW (ni (mw2 ws y r)) = Big.natW (ni ws) * y + r := by
  have h := mv_val ws y r ws.length (Nat.le_refl _)
  have e1 : Big.natW (ni [mvC ws y r ws.length]) = (mvC ws y r ws.length : Int) := by simp [ni, Big.natW]
  rw [List.take_length] at h
  unfold mw2
  rw [ni_append, Bn.natW_append, ni_length, List.length_map, List.length_range, e1]
  exact h
theorem ni_range {l : List Nat} (h : ∀ x ∈ l, x < 18446744073709551616) : ∀ x ∈ ni l, 0 ≤ x ∧ x ≤ 18446744073709551615 := by
  intro x hx
  obtain ⟨n, hn, rfl⟩ := List.mem_map.1 hx
  have := h n hn
  omega
theorem ni_back {l : List Nat} (h : ∀ x ∈ ni l, 0 ≤ x ∧ x ≤ 18446744073709551615) : ∀ x ∈ l, x < 18446744073709551616 := by
  intro x hx
  have := h _ (List.mem_map.2 ⟨x, hx, rfl⟩)
  omega
theorem mw2_lt (ws : List Nat) (y r : Nat) (hx : ∀ x ∈ ws, x < 18446744073709551616) (hy : y < 18446744073709551616) (hr : r < 18446744073709551616) : ∀ x ∈ mw2 ws y r, x < 18446744073709551616 := by
  intro x hm
  rcases List.mem_append.1 hm with h | h
  · obtain ⟨k, _, rfl⟩ := List.mem_map.1 h
    exact Nat.mod_lt _ (by decide)
  · rw [List.mem_singleton.1 h]
    exact mvC_lt ws y r hx hy hr _
def mres (ws : List Nat) (y r : Nat) : List Nat := (mw2 ws y r).take (Bn.normLen (ni (mw2 ws y r)) (ws.length + 1))
theorem mres_val (ws : List Nat) (y r : Nat) : Big.natW (ni (mres ws y r)) = Big.natW (ni ws) * y + r := by
  unfold mres
  rw [← ni_take, Bn.norm_val _ _ (by rw [ni_length, mw2_length]; exact Nat.le_refl _), List.take_of_length_le (by rw [ni_length, mw2_length]; exact Nat.le_refl _), mw2_val]
theorem mres_ok (ws : List Nat) (y r : Nat) (hx : ∀ x ∈ ws, x < 18446744073709551616) (hy : y < 18446744073709551616) (hr : r < 18446744073709551616) : Big.okW (ni (mres ws y r)) := by
  unfold mres
  rw [← ni_take]
  exact Bn.norm_ok _ (ni_range (mw2_lt ws y r hx hy hr)) _ (by rw [ni_length, mw2_length]; exact Nat.le_refl _)
/-- A magnitude under way: nothing yet, or a block of the call's own. -/
def NZ (base k : Nat) (w : World) (v : Value) (N : Nat) : Prop := ∃ ws : List Nat, Big.okW (ni ws) ∧ Big.natW (ni ws) = (N : Int) ∧ ws.length ≤ k ∧
  ((v = .slice none 0 0 ∧ ws = []) ∨ (1 ≤ N ∧ ∃ g cur, base ≤ g ∧ Buf g cur w ∧ v = .slice (some ⟨g, 0, none⟩) ws.length cur.length ∧ ws.length ≤ cur.length ∧ cur.length ≤ 2000000000 ∧ cur.take ws.length = ni ws))
theorem NZ.nil (base k : Nat) (w : World) : NZ base k w (.slice none 0 0) 0 := ⟨[], ⟨by simp [ni], by simp [ni]⟩, rfl, Nat.zero_le _, .inl ⟨rfl, rfl⟩⟩
theorem ss_infoW : (Tryz.prog.info? Big.TW).map (fun i => (i.zero, i.size, i.bytes)) = some (some (.int .u64 0), 1, 8) := by kernel_rfl
set_option maxRecDepth 20000 in
set_option maxHeartbeats 2000000 in
theorem ss_make (g l : Nat) (cur : List Int) (n base : Nat) (hn : 2 ≤ n) (hn2 : n ≤ 1000000000) (hl : l ≤ cur.length) (hc : cur.length ≤ 2000000000) (hb : base ≤ g) (w : World) (hbw : base ≤ w.heap.size) (hZ : Buf g cur w) (nI : Int) (hnI : (n : Int) = nI) :
    Calls Tryz.prog 74 #[.slice (some ⟨g, 0, none⟩) l cur.length, .int .i64 nI] w fun e w' => ∃ g' cz, e = .returned (.slice (some ⟨g', 0, none⟩) n cz.length) ∧ Buf g' cz w' ∧ n ≤ cz.length ∧ cz.length ≤ 2000000000 ∧ base ≤ g' ∧ Below w.heap.size w w' := by
  subst hnI
  obtain ⟨i0, hi, hz0, hz1, hz2⟩ := info_parts ss_infoW
  by_cases h : n ≤ cur.length
  · have hd : decide ((n : Int) ≤ (cur.length : Int)) = true := decide_eq_true (by omega)
    have hd2 : decide (n ≤ cur.length) = true := decide_eq_true h
    have h0 : (0 : Int) ≤ (n : Int) := by omega
    have HZ := Aside0.mk hZ
    have HE : Aside0 (n ≤ cur.length ∧ cur.length ≤ 2000000000 ∧ base ≤ g) := ⟨h, hc, hb⟩
    clear hZ hc hn2
    go_enter Tryz.func74, Tryz.ntmps74
    go_wp2
    go_ret
    exact ⟨g, cur, by first | rfl | simp, HZ.out, HE.out.1, HE.out.2.1, HE.out.2.2, Below.refl _ _⟩
  · have hd : decide ((n : Int) ≤ (cur.length : Int)) = false := decide_eq_false (by omega)
    have hd2 : decide (n ≤ cur.length) = false := decide_eq_false h
    · have he : ((n : Int) == 1) = false := beq_eq_false_iff_ne.2 (by omega)
      have hm := run_make (P := Tryz.prog) w 77 Big.TW i0 (.int .u64 0) Tryz.underlying77 hi hz0 .i64 .i64 (n : Int) ((n : Int) + 4) (by omega) (by omega) (by rw [hz2]; omega) (by omega)
      rw [hz1] at hm
      have HM := Aside0.mk (Buf.made (n + 4) w)
      have HBW := Aside0.mk hbw
      have HN := Aside0.mk hn2
      have e4 : ((n : Int) + 4).toNat = n + 4 := by omega
      rw [e4, Int.toNat_natCast, Nat.mul_one] at hm
      clear hZ h hbw
      go_enter Tryz.func74, Tryz.ntmps74
      go_wp2
      go_ret
      exact ⟨w.heap.size, List.replicate (n + 4) 0, by rw [List.length_replicate]; rfl, HM.out, by rw [List.length_replicate]; omega, by rw [List.length_replicate]; have := HN.out; omega, HBW.out, (Below.refl _ _).alloc (Nat.le_refl _) _⟩
set_option maxHeartbeats 2000000 in
theorem ss_make1 (w : World) : Calls Tryz.prog 74 #[.slice none 0 0, .int .i64 1] w fun e w' => e = .returned (.slice (some ⟨w.heap.size, 0, none⟩) 1 1) ∧ Buf w.heap.size [0] w' ∧ Below w.heap.size w w' := by
  obtain ⟨i0, hi, hz0, hz1, hz2⟩ := info_parts ss_infoW
  have hm := run_make (P := Tryz.prog) w 77 Big.TW i0 (.int .u64 0) Tryz.underlying77 hi hz0 .i64 .i64 1 1 (by omega) (by omega) (by rw [hz2]; omega) (by omega)
  rw [hz1] at hm
  have HM := Aside0.mk (Buf.made 1 w)
  go_enter Tryz.func74, Tryz.ntmps74
  go_wp2
  go_ret
  exact ⟨rfl, HM.out, (Below.refl _ _).alloc (Nat.le_refl _) _⟩

def ssN : Value → Nat
  | .int _ n => n.toNat
  | _ => 0
set_option maxHeartbeats 2000000 in
theorem ss_norm (A : Option Addr) (c : Nat) (xs : List Int) (w : World) (hr : Kd.C (Kd.int .u64) w A xs.length xs) (hc : xs.length ≤ c) : Calls Tryz.prog 76 #[.slice A xs.length c] w fun e w' => e = .returned (.slice A (Bn.normLen xs xs.length) c) ∧ w' = w := by
  have HR := Aside0.mk hr
  have HC := Aside0.mk hc
  have hlm := Kd.C_max hr
  clear hr hc
  go_enter Tryz.func76, Tryz.ntmps76
  go_wp2
  go_loopw [3] (fun v3 wr => ∃ i : Nat, v3 = .int .i64 (i : Int) ∧ Aside0 (wr = w) ∧ Aside0 (Bn.normLen xs i = Bn.normLen xs xs.length) ∧ i ≤ xs.length) (fun v3 wr => ssN v3)
  case atStart => exact ⟨xs.length, rfl, ⟨rfl⟩, ⟨rfl⟩, Nat.le_refl _⟩
  case round =>
    obtain ⟨i, rfl, ⟨rfl⟩, HN, hi⟩ := hrel
    by_cases h0 : i = 0
    · subst h0
      have hn0 : Bn.normLen xs xs.length = 0 := HN.out.symm
      have hg : decide ((0 : Int) < ((0 : Nat) : Int)) = false := by decide
      go_wp2
      go_ret
      refine ⟨?_, rfl⟩
      rw [hn0]
      rfl
    · obtain ⟨m, rfl⟩ : ∃ m, i = m + 1 := ⟨i - 1, by omega⟩
      have hg : decide ((0 : Int) < ((m + 1 : Nat) : Int)) = true := decide_eq_true (by omega)
      have hm0 : (0 : Int) ≤ (m : Int) := by omega
      have hm1 : (m : Int) < (xs.length : Int) := by omega
      obtain ⟨ad, rfl, hx⟩ := Kd.at_int HR.out (m : Int) hm0 hm1
      rw [Int.toNat_natCast] at hx
      have hrd : rd xs (m : Int) = xs.getD m 0 := by simp [rd]
      have hs1 : ((m + 1 : Nat) : Int) - 1 = (m : Int) := by omega
      have HN1 : Aside0 (Bn.normLen xs xs.length = if rd xs (m : Int) = 0 then Bn.normLen xs m else m + 1) := ⟨by rw [← HN.out, Bn.normLen, hrd]⟩
      clear hrd
      generalize rd xs (m : Int) = x at hx HN1
      by_cases hz : x = 0
      · have hz0 : (x == 0) = true := beq_iff_eq.2 hz
        have HN2 : Aside0 (Bn.normLen xs m = Bn.normLen xs xs.length) := ⟨by rw [HN1.out, if_pos hz]⟩
        clear hz
        go_wp2
        go_roundw
        case rel => exact ⟨m, by first | rfl | rw [hs1], ⟨by first | rfl | trivial⟩, HN2, by omega⟩
        case measure =>
          show ssN _ < ssN _
          simp only [ssN]
          omega
      · have hz0 : (x == 0) = false := beq_eq_false_iff_ne.2 hz
        have hn0 : Bn.normLen xs xs.length = m + 1 := by rw [HN1.out, if_neg hz]
        have hcb : (m : Int) + 1 ≤ (c : Int) := by have := HC.out; omega
        have hcb2 : m + 1 ≤ c := by have := HC.out; omega
        clear hz
        go_wp2
        go_ret
        refine ⟨?_, rfl⟩
        rw [hn0]
        rfl

set_option maxHeartbeats 2000000 in
theorem ss_setWord (base k r : Nat) (hk : 1 ≤ k) (hr : r < 18446744073709551616) (w : World) (hbw : base ≤ w.heap.size) :
    Calls Tryz.prog 96 #[.slice none 0 0, .int .u64 (r : Int)] w fun e w' => ∃ v', e = .returned v' ∧ NZ base k w' v' r ∧ Below w.heap.size w w' := by
  by_cases h : r = 0
  · subst h
    have HN := Aside0.mk (NZ.nil base k w)
    go_enter Tryz.func96, Tryz.ntmps96
    go_wp2
    go_ret
    exact ⟨_, rfl, HN.out, Below.refl _ _⟩
  · have hz : ((r : Int) == 0) = false := beq_eq_false_iff_ne.2 (by omega)
    have hz2 : (r == 0) = false := beq_eq_false_iff_ne.2 h
    have hC := Aside0.mk (ss_make1 w)
    have HR := Aside0.mk hr
    have HK := Aside0.mk hk
    have HBW := Aside0.mk hbw
    have HH : Aside0 (r ≠ 0) := ⟨h⟩
    clear hr hk hbw h
    go_enter Tryz.func96, Tryz.ntmps96
    go_wp2_with (go_at_call 74; (with_reducible refine (hC.out).mono ?_))
    rintro e W1 ⟨rfl, hZ, hB⟩
    have hcell := hZ.cell 0 (by decide)
    have hfrz := hZ.frozen 0
    have HP := Aside0.mk (hZ.put 0 (r : Int))
    have HB3 : Aside0 (Below w.heap.size w (W1.setCell ⟨w.heap.size, 0, none⟩ (.int .u64 (r : Int)))) := ⟨hB.setCell (p := ⟨w.heap.size, 0, none⟩) (Nat.le_refl _) _⟩
    clear hZ hB
    go_wp2
    go_ret
    refine ⟨_, rfl, ⟨[r], ⟨fun x hx => ?_, ?_⟩, ?_, HK.out, .inr ⟨?_, w.heap.size, [(r : Int)], HBW.out, HP.out, rfl, Nat.le_refl _, by simp, rfl⟩⟩, HB3.out⟩
    · have h2 : x = (r : Int) := List.mem_singleton.1 hx
      have h3 := HR.out
      omega
    · simp [ni]
      exact HH.out
    · simp [ni, Big.natW]
    · have := HH.out
      omega
set_option maxHeartbeats 2000000 in
theorem ss_mulAddVWW (gz gx cx m base : Nat) (xs : List Nat) (cz : List Int) (y r : Nat) (hm : xs.length = m) (hcx : m ≤ cx) (hcz : m ≤ cz.length) (hxx : ∀ x ∈ xs, x < 18446744073709551616) (hy : y < 18446744073709551616) (hr : r < 18446744073709551616) (hl : cz.length ≤ maxLen) (hb : base ≤ gz) (w : World) (hX : MvX gx xs 0 w) (hZ : Buf gz cz w) :
    Calls Tryz.prog 97 #[.slice (some ⟨gz, 0, none⟩) m cz.length, .slice (some ⟨gx, 0, none⟩) m cx, .int .u64 (y : Int), .int .u64 (r : Int)] w fun e w' => ∃ c : Nat, e = .returned (.int .u64 (c : Int)) ∧ c = mvC xs y r m ∧ Buf gz (mvL xs y r cz m) w' ∧ Below base w w' := by
  have hC := Aside0.mk (ss_mulAddVWW_g gz gx cx m base xs cz y r hm hcx hcz hxx hy hr hl hb w hX hZ)
  clear hm hcx hcz hxx hy hr hl hb hX hZ
  go_enter Tryz.func97, Tryz.ntmps97
  go_wp2_with (go_at_call 101; (with_reducible refine (hC.out).mono ?_))
  rintro e W1 ⟨rfl, h1, h2⟩
  go_wp2
  go_ret
  exact ⟨_, rfl, rfl, h1, h2⟩
theorem ss_w1 (m : Nat) (h : m ≤ 100000000) : wrap64 ((m : Int) + 1) = (m : Int) + 1 := by
  unfold wrap64
  omega
set_option maxHeartbeats 4000000 in
theorem ss_mulAddWW (base k N y r : Nat) (v : Value) (hk : k ≤ 100000000) (hy1 : 1 ≤ y) (hy : y < 18446744073709551616) (hr : r < 18446744073709551616) (w : World) (hbw : base ≤ w.heap.size) (hN : NZ base k w v N) :
    Calls Tryz.prog 92 #[v, v, .int .u64 (y : Int), .int .u64 (r : Int)] w fun e w' => ∃ v', e = .returned v' ∧ NZ base (k + 1) w' v' (N * y + r) ∧ Below base w w' := by
  obtain ⟨ws, hok, hval, hwk, h⟩ := hN
  rcases h with ⟨rfl, rfl⟩ | ⟨hN1, g, cur, hbg, hZ, rfl, hwl, hcl, htk⟩
  · have hN0 : N = 0 := by have : (0 : Int) = (N : Int) := hval; omega
    subst hN0
    rw [Nat.zero_mul, Nat.zero_add]
    have hC := Aside0.mk (ss_setWord base (k + 1) r (by omega) hr w hbw)
    have HBW := Aside0.mk hbw
    clear hok hval hwk hbw hk hy hr
    go_enter Tryz.func92, Tryz.ntmps92
    go_wp2_with (go_at_call 96; (with_reducible refine (hC.out).mono ?_))
    rintro e W1 ⟨v', rfl, h1, h2⟩
    go_wp2
    go_ret
    exact ⟨_, rfl, h1, h2.mono HBW.out⟩
  · have hm1 : 1 ≤ ws.length := by
      cases ws with
      | nil => exfalso; have : (0 : Int) = (N : Int) := hval; omega
      | cons x l => simp
    have hxx := ni_back hok.1
    have HV := Aside0.mk hval
    clear hval
    obtain ⟨m, hm⟩ : ∃ m, m = ws.length := ⟨_, rfl⟩
    rw [← hm] at hwk hwl htk hm1 ⊢
    have hpc : ((m + 1 : Nat) : Int) = (m : Int) + 1 := by omega
    have HW := Aside0.mk (ss_w1 m (Nat.le_trans hwk hk))
    have HZ := Aside0.mk hZ
    have HX : Aside0 (MvX g ws 0 w) := ⟨fun j _ hj => by
      have h1 : j < cur.length := by omega
      rw [hZ.cell j h1]
      have h2 : (cur.take m)[j]? = (ni ws)[j]? := by rw [htk]
      rw [List.getElem?_take, if_pos (by omega), List.getElem?_eq_getElem h1] at h2
      have h3 : (ni ws)[j]? = some ((ws.getD j 0 : Nat) : Int) := by
        unfold ni
        rw [List.getElem?_map, List.getElem?_eq_getElem hj, List.getD_eq_getElem?_getD, List.getElem?_eq_getElem hj]
        rfl
      rw [h3] at h2
      rw [Option.some.inj h2]⟩
    have HE : Aside0 (ws.length = m ∧ m ≤ k ∧ k ≤ 100000000 ∧ m ≤ cur.length ∧ g < w.heap.size ∧ base ≤ w.heap.size ∧ 1 ≤ y ∧ 1 ≤ N) := ⟨hm.symm, hwk, hk, hwl, hZ.lt, hbw, hy1, hN1⟩
    have HY := Aside0.mk hy
    have HR := Aside0.mk hr
    have HXX := Aside0.mk hxx
    have hz : ((m : Int) == 0) = false := beq_eq_false_iff_ne.2 (by omega)
    have hz2 : (m == 0) = false := beq_eq_false_iff_ne.2 (by omega)
    have hy0 : ((y : Int) == 0) = false := beq_eq_false_iff_ne.2 (by omega)
    have hy02 : (y == 0) = false := beq_eq_false_iff_ne.2 (by omega)
    have hMk := Aside0.mk (ss_make g m cur (m + 1) base (by omega) (by omega) hwl hcl hbg w hbw hZ ((m : Int) + 1) hpc)
    have hw := HW.out
    clear hpc hok hwk hZ htk hxx hm hk hy hr hbw hN1 hbg hcl hwl
    go_enter Tryz.func92, Tryz.ntmps92
    go_wp2_with (go_at_call 74; (with_reducible refine (hMk.out).mono ?_))
    rintro e W1 ⟨g', cz, rfl, hZ', h1, h2, h3, hB1⟩
    clear hw
    have hX1 : MvX g ws 0 W1 := fun j h0 hj => by
      rw [HX.out j h0 hj |>.symm]
      exact hB1.cell (p := ⟨g, j, none⟩) HE.out.2.2.2.2.1
    have hV := Aside0.mk (ss_mulAddVWW g' g cur.length m base ws cz y r HE.out.1 HE.out.2.2.2.1 (by omega) HXX.out HY.out HR.out (by simp only [maxLen]; omega) h3 W1 hX1 hZ')
    have hmc : (m : Int) ≤ (cz.length : Int) := by omega
    have hmc2 : m ≤ cz.length := by omega
    have hm0 : (0 : Int) ≤ (m : Int) := by omega
    have HB1 := Aside0.mk hB1
    have HC : Aside0 (m + 1 ≤ cz.length ∧ cz.length ≤ 2000000000 ∧ base ≤ g') := ⟨h1, h2, h3⟩
    clear hX1 hZ' h1 h2 h3 hB1
    go_wp2_with (go_at_call 97; (with_reducible refine (hV.out).mono ?_))
    rintro e W2 ⟨c, rfl, hc, hZ2, hB2⟩
    have hlen := mvL_length ws y r cz m hmc2
    obtain ⟨cv, hcell⟩ : ∃ cv, W2.cell? ⟨g', m, none⟩ = some cv := ⟨_, hZ2.cell m (by rw [hlen]; have := HC.out.1; omega)⟩
    have hfrz := hZ2.frozen m
    have hput := hZ2.put m (c : Int)
    have hl2 : ((mvL ws y r cz m).set m (c : Int)).length = cz.length := by rw [List.length_set, hlen]
    have htk2 : ((mvL ws y r cz m).set m (c : Int)).take (m + 1) = ni (mw2 ws y r) := by
      have e1 : (((List.range m).map fun k => ((mvW ws y r k : Nat) : Int))).length = m := by simp
      have e2 : m + 1 - m = 1 := by omega
      unfold mvL mw2
      rw [List.set_append, e1, if_neg (Nat.lt_irrefl m), Nat.sub_self, List.drop_eq_getElem_cons (by have := HC.out.1; omega : m < cz.length), List.set_cons_zero, List.take_append, e1, e2, List.take_of_length_le (by rw [e1]; omega), ni_append, HE.out.1, hc]
      simp [ni]
    obtain ⟨cf, hcf⟩ : ∃ cf, cf = (mvL ws y r cz m).set m (c : Int) := ⟨_, rfl⟩
    rw [← hcf] at hput hl2 htk2
    have hm1l : m + 1 ≤ cf.length := by rw [hl2]; exact HC.out.1
    have hcl := hput.C (by rw [hl2]; have := HC.out.2.1; simp only [maxLen]; omega) (m + 1) hm1l
    rw [htk2] at hcl
    have hnl : (ni (mw2 ws y r)).length = m + 1 := by rw [ni_length, mw2_length, HE.out.1]
    have hNm := ss_norm (some ⟨g', 0, none⟩) cz.length (ni (mw2 ws y r)) _ hcl (by rw [hnl]; exact HC.out.1)
    rw [hnl] at hNm
    have HNm := Aside0.mk hNm
    have HF : Aside0 (Buf g' cf (W2.setCell ⟨g', m, none⟩ (.int .u64 (c : Int))) ∧ cf.length = cz.length ∧ cf.take (m + 1) = ni (mw2 ws y r)) := ⟨hput, hl2, htk2⟩
    have HB3 : Aside0 (Below base w (W2.setCell ⟨g', m, none⟩ (.int .u64 (c : Int)))) := ⟨((HB1.out.mono HE.out.2.2.2.2.2.1).trans hB2).setCell (p := ⟨g', m, none⟩) HC.out.2.2 _⟩
    have hmi : (m : Int) < ((m + 1 : Nat) : Int) := by omega
    clear hZ2 hB2 hlen hput hl2 htk2 hm1l hcl hnl hNm hcf hc
    go_wp2_with (go_at_call 76; (with_reducible refine (HNm.out).mono ?_); rintro e w' ⟨rfl, rfl⟩)
    go_ret
    obtain ⟨hF1, hF2, hF3⟩ := HF.out
    obtain ⟨hE1, hE2, hE3, hE4, hE5, hE6, hE7, hE8⟩ := HE.out
    have hrl : (mres ws y r).length = Bn.normLen (ni (mw2 ws y r)) (m + 1) := by
      unfold mres
      rw [List.length_take, mw2_length, hE1, Nat.min_eq_left (Bn.normLen_le _ _)]
    refine ⟨_, rfl, ⟨mres ws y r, mres_ok ws y r HXX.out HY.out HR.out, ?_, ?_, .inr ⟨?_, g', cf, HC.out.2.2, hF1, ?_, ?_, ?_, ?_⟩⟩, HB3.out⟩
    · rw [mres_val, HV.out]
      simp
    · rw [hrl]
      have := Bn.normLen_le (ni (mw2 ws y r)) (m + 1)
      omega
    · have := Nat.mul_le_mul hE8 hE7
      omega
    · rw [hrl, hF2]
      rfl
    · rw [hrl, hF2]
      have := Bn.normLen_le (ni (mw2 ws y r)) (m + 1)
      have := HC.out.1
      omega
    · rw [hF2]
      exact HC.out.2.1
    · rw [hrl]
      unfold mres
      rw [hE1, ← ni_take, ← hF3, List.take_take, Nat.min_eq_left (Bn.normLen_le _ _)]

/-! the reader of a text, byte by byte -/
abbrev TRd : Nat := 125
def Rdr (g : Nat) (s : ByteArray) (i p : Int) (w : World) : Prop := w.heap[g]? = some (.cells #[.string s, .int .i64 i, .int .i64 p] TRd (0, 0))
theorem Rdr.c0 {g : Nat} {s : ByteArray} {i p : Int} {w : World} (h : Rdr g s i p w) : w.cell? ⟨g, 0, none⟩ = some (.string s) := (blk_cell h 0).trans rfl
theorem Rdr.c1 {g : Nat} {s : ByteArray} {i p : Int} {w : World} (h : Rdr g s i p w) : w.cell? ⟨g, 1, none⟩ = some (.int .i64 i) := (blk_cell h 1).trans rfl
theorem Rdr.c2 {g : Nat} {s : ByteArray} {i p : Int} {w : World} (h : Rdr g s i p w) : w.cell? ⟨g, 2, none⟩ = some (.int .i64 p) := (blk_cell h 2).trans rfl
theorem Rdr.s1 {g : Nat} {s : ByteArray} {i p : Int} {w : World} (h : Rdr g s i p w) (x : Int) : Rdr g s x p (w.setCell ⟨g, 1, none⟩ (.int .i64 x)) := by unfold Rdr; simpa using blk_set h 1 (.int .i64 x)
theorem Rdr.s2 {g : Nat} {s : ByteArray} {i p : Int} {w : World} (h : Rdr g s i p w) (x : Int) : Rdr g s i x (w.setCell ⟨g, 2, none⟩ (.int .i64 x)) := by unfold Rdr; simpa using blk_set h 2 (.int .i64 x)
theorem Rdr.fr {g : Nat} {s : ByteArray} {i p : Int} {w : World} (h : Rdr g s i p w) (k : Nat) : w.frozen? ⟨g, k, none⟩ = false := blk_frozen h k
theorem Rdr.lt {g : Nat} {s : ByteArray} {i p : Int} {w : World} (h : Rdr g s i p w) : g < w.heap.size := (Array.getElem?_eq_some_iff.1 h).1
theorem Rdr.below {g : Nat} {s : ByteArray} {i p : Int} {w w' : World} (h : Rdr g s i p w) {b : Nat} (hb : Below b w w') (hg : g < b) : Rdr g s i p w' := (hb.block g hg).trans h
/-- What lies beside the reader is as it was. -/
def Side (g : Nat) (w w' : World) : Prop := (∀ k, k ≠ g → w'.heap[k]? = w.heap[k]?) ∧ w'.heap.size = w.heap.size ∧ Below g w w'
theorem Side.set {g : Nat} {w w' : World} (h : Side g w w') (k : Nat) (v : Value) : Side g w (w'.setCell ⟨g, k, none⟩ v) := by
  refine ⟨fun j hj => ?_, ?_, h.2.2.setCell (p := ⟨g, k, none⟩) (Nat.le_refl _) v⟩
  · rw [← h.1 j hj]
    exact Below.heap_setCell w' ⟨g, k, none⟩ v j hj
  · rw [← h.2.1]
    simp
theorem Side.refl (g : Nat) (w : World) : Side g w w := ⟨fun _ _ => rfl, rfl, Below.refl _ _⟩
theorem Rdr.drew {g : Nat} {s : ByteArray} {i p : Int} {w : World} (h : Rdr g s i p w) (n : Nat) : Rdr g s i p (w.drewN n) := h
theorem Side.drew {g : Nat} {w w' : World} (h : Side g w w') (n : Nat) : Side g w (w'.drewN n) := ⟨h.1, h.2.1, pw_below_drewN h.2.2 n⟩
open Go.Proofs.YtipfmkfpaglkkaaGreatDoor.Gw
theorem _root_.Go.Proofs.YtipfmkfpaglkkaaGreatDoor.Gw.ErrAt.side {ge g : Nat} {a : Addr} {w w' : World} (h : ErrAt ge a w) (hs : Side g w w') (hne : ge ≠ g) : ErrAt ge a w' := (World.cell?_of_block (w := w) (hs.1 ge hne)).trans h
theorem Side.trans {g : Nat} {w w' w2 : World} (h : Side g w w') (h2 : Side g w' w2) : Side g w w2 := ⟨fun k hk => (h2.1 k hk).trans (h.1 k hk), h2.2.1.trans h.2.1, h.2.2.trans h2.2.2⟩
def EV (a : Addr) : Value := .iface 156 (.pointer (some a))
set_option maxHeartbeats 1000000 in
theorem ss_read (g i : Nat) (s : ByteArray) (p : Int) (w : World) (hi : i < s.size) (hs : s.size ≤ 1000000) (hr : Rdr g s (i : Int) p w) :
    Calls Tryz.prog 130 #[.pointer (some ⟨g, 0, none⟩)] w fun e w' => e = .returned (.tuple #[.int .u8 (s[i].toNat : Int), .nilIface]) ∧ Rdr g s ((i : Int) + 1) (-1) w' ∧ Side g w w' := by
  have c0 := hr.c0
  have c1 := hr.c1
  have c2 := hr.c2
  have f2 := hr.fr 2
  obtain ⟨w1, hw1⟩ : ∃ w1, w.setCell ⟨g, 2, none⟩ (.int .i64 (-1)) = w1 := ⟨_, rfl⟩
  have h2 := hr.s2 (-1)
  have h2s := (Side.refl g w).set 2 (.int .i64 (-1))
  rw [hw1] at h2 h2s
  have d0 := h2.c0
  have d1 := h2.c1
  have f1 := h2.fr 1
  have HR := Aside0.mk h2
  have HS := Aside0.mk h2s
  have hd3 : decide (s.size ≤ i) = false := decide_eq_false (by omega)
  have hd : decide ((i : Int) ≥ (s.size : Int)) = false := decide_eq_false (by omega)
  have hd2 : decide ((s.size : Int) ≤ (i : Int)) = false := decide_eq_false (by omega)
  have hi0 : (0 : Int) ≤ (i : Int) := by omega
  have hi1 : (i : Int) < (s.size : Int) := by omega
  have hw : wrap64 ((i : Int) + 1) = (i : Int) + 1 := by unfold wrap64; omega
  clear hr hs h2 h2s
  go_enter Tryz.func130, Tryz.ntmps130
  go_wp2
  go_quiet (fail)
  go_wp2
  go_quiet (fail)
  go_wp2
  go_ret2
  exact ⟨by first | rfl | simp, (HR.out.drew _).s1 _, (HS.out.drew _).set 1 _⟩
set_option maxHeartbeats 1000000 in
theorem ss_readEnd (g i : Nat) (s : ByteArray) (p : Int) (a : Addr) (w : World) (hi : s.size ≤ i) (hr : Rdr g s (i : Int) p w) (he : ErrAt gEOF a w) (hne : gEOF ≠ g) :
    Calls Tryz.prog 130 #[.pointer (some ⟨g, 0, none⟩)] w fun e w' => e = .returned (.tuple #[.int .u8 0, EV a]) ∧ Rdr g s (i : Int) (-1) w' ∧ Side g w w' := by
  have c0 := hr.c0
  have c1 := hr.c1
  have c2 := hr.c2
  have f2 := hr.fr 2
  obtain ⟨w1, hw1⟩ : ∃ w1, w.setCell ⟨g, 2, none⟩ (.int .i64 (-1)) = w1 := ⟨_, rfl⟩
  have h2 := hr.s2 (-1)
  have h2s := (Side.refl g w).set 2 (.int .i64 (-1))
  rw [hw1] at h2 h2s
  have d0 := h2.c0
  have d1 := h2.c1
  have de : w1.cell? ⟨2, 0, none⟩ = some (.iface 156 (.pointer (some a))) := he.side h2s hne
  have HR := Aside0.mk h2
  have HS := Aside0.mk h2s
  have hd3 : decide (s.size ≤ i) = true := decide_eq_true (by omega)
  have hd : decide ((i : Int) ≥ (s.size : Int)) = true := decide_eq_true (by omega)
  have hd2 : decide ((s.size : Int) ≤ (i : Int)) = true := decide_eq_true (by omega)
  clear hr he hne h2 h2s hi
  go_enter Tryz.func130, Tryz.ntmps130
  go_wp2
  go_quiet (fail)
  go_wp2
  go_quiet (fail)
  go_wp2
  go_ret2
  exact ⟨by first | rfl | simp, (HR.out.drew _).drew _, (HS.out.drew _).drew _⟩
set_option maxHeartbeats 1000000 in
theorem ss_unread (g : Nat) (i : Int) (s : ByteArray) (p : Int) (w : World) (hi : 0 ≤ i) (hs : i ≤ 1000000) (hr : Rdr g s (i + 1) p w) :
    Calls Tryz.prog 131 #[.pointer (some ⟨g, 0, none⟩)] w fun e w' => e = .returned .nilIface ∧ Rdr g s i (-1) w' ∧ Side g w w' := by
  have c0 := hr.c0
  have c1 := hr.c1
  have c2 := hr.c2
  have f2 := hr.fr 2
  obtain ⟨w1, hw1⟩ : ∃ w1, w.setCell ⟨g, 2, none⟩ (.int .i64 (-1)) = w1 := ⟨_, rfl⟩
  have h2 := hr.s2 (-1)
  have h2s := (Side.refl g w).set 2 (.int .i64 (-1))
  rw [hw1] at h2 h2s
  have d0 := h2.c0
  have d1 := h2.c1
  have f1 := h2.fr 1
  have HR := Aside0.mk h2
  have HS := Aside0.mk h2s
  have hd : decide (i + 1 ≤ 0) = false := decide_eq_false (by omega)
  have hw : wrap64 (i + 1 - 1) = i := by unfold wrap64; omega
  have hw' : i + 1 - 1 = i := by omega
  have hw2 : wrap64 i = i := by unfold wrap64; omega
  clear hr hs h2 h2s hi
  go_enter Tryz.func131, Tryz.ntmps131
  go_wp2
  go_ret
  exact ⟨by first | rfl | simp, HR.out.s1 _, HS.out.set 1 _⟩

/-! the sign -/
attribute [local go_sem] EV
abbrev RI (g : Nat) : Value := .iface 110 (.pointer (some ⟨g, 0, none⟩))
def sgN (s : ByteArray) : Nat := if h : 0 < s.size then (if s[0] = 45 ∨ s[0] = 43 then 1 else 0) else 0
def sgB (s : ByteArray) : Bool := if h : 0 < s.size then s[0] == 45 else false
set_option maxRecDepth 100000 in
set_option maxHeartbeats 2000000 in
theorem ss_sign0 (g : Nat) (s : ByteArray) (p : Int) (a : Addr) (w : World) (hi : s.size = 0) (hr : Rdr g s 0 p w) (he : ErrAt gEOF a w) (hne : gEOF ≠ g) :
    Calls Tryz.prog 89 #[RI g] w fun e w' => e = .returned (.tuple #[.bool false, EV a]) ∧ Side g w w' := by
  have hC := Aside0.mk (ss_readEnd g 0 s p a w (by omega) hr he hne)
  clear hr he hne
  go_enter Tryz.func89, Tryz.ntmps89
  go_wp2_with (show Calls Tryz.prog 130 #[.pointer (some ⟨g, 0, none⟩)] _ _; (with_reducible refine (hC.out).mono ?_); rintro e W1 ⟨rfl, h1, h2⟩; have H2 := Aside0.mk h2; clear h1 h2)
  go_wp2
  go_ret2
  exact ⟨rfl, H2.out⟩
set_option maxRecDepth 100000 in
set_option maxHeartbeats 2000000 in
theorem ss_sign1 (g : Nat) (s : ByteArray) (p : Int) (w : World) (hi : 0 < s.size) (hs : s.size ≤ 1000000) (hr : Rdr g s 0 p w) :
    Calls Tryz.prog 89 #[RI g] w fun e w' => e = .returned (.tuple #[.bool (sgB s), .nilIface]) ∧ Rdr g s (sgN s : Int) (-1) w' ∧ Side g w w' := by
  have hC := Aside0.mk (ss_read g 0 s p w hi hs hr)
  have e1 : sgB s = (s[0] == 45) := dif_pos hi
  have e2 : sgN s = if s[0] = 45 ∨ s[0] = 43 then 1 else 0 := dif_pos hi
  have hU : ∀ W p, Rdr g s ((0 : Int) + 1) p W → _ := fun W p h => ss_unread g 0 s p W (by omega) (by omega) h
  have HU := Aside0.mk hU
  rw [e1, e2]
  clear hr e1 e2 hU hs
  generalize s[0] = c at hC ⊢
  clear hi
  by_cases h1 : c = 45
  · subst h1
    go_enter Tryz.func89, Tryz.ntmps89
    go_wp2_with (show Calls Tryz.prog 130 #[.pointer (some ⟨g, 0, none⟩)] _ _; (with_reducible refine (hC.out).mono ?_); rintro e W1 ⟨rfl, h1, h2⟩; have H1 := Aside0.mk h1; have H2 := Aside0.mk h2; clear h1 h2)
    go_wp2
    go_ret2
    exact ⟨rfl, H1.out, H2.out⟩
  · by_cases h2 : c = 43
    · subst h2
      go_enter Tryz.func89, Tryz.ntmps89
      go_wp2_with (show Calls Tryz.prog 130 #[.pointer (some ⟨g, 0, none⟩)] _ _; (with_reducible refine (hC.out).mono ?_); rintro e W1 ⟨rfl, h1, h2⟩; have H1 := Aside0.mk h1; have H2 := Aside0.mk h2; clear h1 h2)
      go_wp2
      go_ret2
      exact ⟨rfl, H1.out, H2.out⟩
    · have b1 : ((c.toNat : Int) == 45) = false := beq_eq_false_iff_ne.2 (fun h => h1 (UInt8.toNat_inj.1 (show c.toNat = 45 by omega)))
      have b2 : ((c.toNat : Int) == 43) = false := beq_eq_false_iff_ne.2 (fun h => h2 (UInt8.toNat_inj.1 (show c.toNat = 43 by omega)))
      have b3 : (c == 45) = false := beq_eq_false_iff_ne.2 h1
      rw [if_neg (by simp [h1, h2]), b3]
      clear h1 h2 b3
      go_enter Tryz.func89, Tryz.ntmps89
      go_wp2_with (show Calls Tryz.prog 130 #[.pointer (some ⟨g, 0, none⟩)] _ _; (with_reducible refine (hC.out).mono ?_); rintro e W1 ⟨rfl, h1, h2⟩; have H2 := Aside0.mk h2; have HC2 := Aside0.mk (HU.out W1 _ h1); clear h1 h2)
      go_wp2_with (show Calls Tryz.prog 131 #[.pointer (some ⟨g, 0, none⟩)] _ _; (with_reducible refine (HC2.out).mono ?_); rintro e W2 ⟨rfl, h1, h2⟩; have H1 := Aside0.mk h1; have H3 := Aside0.mk h2; clear h1 h2)
      go_wp2
      go_ret2
      exact ⟨rfl, H1.out, H2.out.trans H3.out⟩

/-! the digits -/
def NV (l : List UInt8) : Nat := l.foldl (fun n c => 10 * n + (c.toNat - 48)) 0
theorem NV_snoc (l : List UInt8) (c : UInt8) : NV (l ++ [c]) = 10 * NV l + (c.toNat - 48) := by simp [NV, List.foldl_append]
def dcs (s : ByteArray) (i0 j : Nat) : List UInt8 := ((By.bl s).drop i0).take j
theorem dcs_step (s : ByteArray) (i0 j : Nat) (h : i0 + j < s.size) : dcs s i0 (j + 1) = dcs s i0 j ++ [s[i0 + j]] := by
  unfold dcs
  have hl : j < ((By.bl s).drop i0).length := by rw [List.length_drop, By.bl_length]; omega
  rw [← List.take_append_getElem hl, List.getElem_drop]
  rfl
/-- What a look ahead gives at place i. -/
def Nx (s : ByteArray) (i : Nat) (a : Addr) (v11 v15 : Value) (q : Int) : Prop :=
  (∃ h : i < s.size, v11 = .nilIface ∧ v15 = .int .u8 (s[i].toNat : Int) ∧ q = (i : Int) + 1) ∨ (s.size = i ∧ v11 = EV a ∧ v15 = .int .u8 0 ∧ q = (i : Int))
theorem ss_next (g i : Nat) (s : ByteArray) (p : Int) (a : Addr) (w : World) (hi : i ≤ s.size) (hs : s.size ≤ 1000000) (hr : Rdr g s (i : Int) p w) (he : ErrAt gEOF a w) (hne : gEOF ≠ g) :
    Calls Tryz.prog 130 #[.pointer (some ⟨g, 0, none⟩)] w fun e w' => ∃ v11 v15 q, e = .returned (.tuple #[v15, v11]) ∧ Nx s i a v11 v15 q ∧ Rdr g s q (-1) w' ∧ Side g w w' := by
  by_cases h : i < s.size
  · refine (ss_read g i s p w h hs hr).mono ?_
    rintro e w' ⟨rfl, h1, h2⟩
    exact ⟨_, _, _, rfl, .inl ⟨h, rfl, rfl, rfl⟩, h1, h2⟩
  · refine (ss_readEnd g i s p a w (by omega) hr he hne).mono ?_
    rintro e w' ⟨rfl, h1, h2⟩
    exact ⟨_, _, _, rfl, .inr ⟨by omega, rfl, rfl, rfl⟩, h1, h2⟩
theorem NZ.side {base k : Nat} {w w' : World} {v : Value} {N g : Nat} (h : NZ base k w v N) (hs : Side g w w') (hg : g < base) : NZ base k w' v N := by
  obtain ⟨ws, h1, h2, h3, h4⟩ := h
  refine ⟨ws, h1, h2, h3, ?_⟩
  rcases h4 with h4 | ⟨h5, b, cur, h6, h7, h8⟩
  · exact .inl h4
  · exact .inr ⟨h5, b, cur, h6, h7.move (hs.1 b (by omega)), h8⟩
theorem NZ.more {base k k' : Nat} {w : World} {v : Value} {N : Nat} (h : NZ base k w v N) (hk : k ≤ k') : NZ base k' w v N := by
  obtain ⟨ws, h1, h2, h3, h4⟩ := h
  exact ⟨ws, h1, h2, by omega, h4⟩
/-- The frame: what lay there before is as it was, but for the reader. -/
def FrS (g base : Nat) (w w' : World) : Prop := (∀ k, k < base → k ≠ g → w'.heap[k]? = w.heap[k]?) ∧ Below g w w'
theorem FrS.refl (g base : Nat) (w : World) : FrS g base w w := ⟨fun _ _ _ => rfl, Below.refl _ _⟩
theorem FrS.side {g base : Nat} {w w' w2 : World} (h : FrS g base w w') (hs : Side g w' w2) : FrS g base w w2 := ⟨fun k hk hg => (hs.1 k hg).trans (h.1 k hk hg), h.2.trans hs.2.2⟩
theorem FrS.below {g base : Nat} {w w' w2 : World} (h : FrS g base w w') (hb : Below base w' w2) (hg : g < base) : FrS g base w w2 := ⟨fun k hk hne => (hb.block k hk).trans (h.1 k hk hne), h.2.trans (hb.mono (by omega))⟩

/-! powers of ten -/
def tp (k : Nat) : Nat := 10 ^ k
theorem tp_succ (k : Nat) : tp (k + 1) = tp k * 10 := Nat.pow_succ ..
theorem tp_le {a b : Nat} (h : a ≤ b) : tp a ≤ tp b := Nat.pow_le_pow_right (by omega) h
theorem tp_pos (k : Nat) : 1 ≤ tp k := Nat.pow_pos (by omega)
theorem tp18 : tp 18 = 1000000000000000000 := by decide
theorem tp19 : tp 19 = 10000000000000000000 := by decide
theorem ss_wrapu (x : Nat) (h : x < 18446744073709551616) : IntKind.u64.wrap ((x : Nat) : Int) = (x : Int) := by
  rw [IntKind.wrap_u64]
  omega
set_option maxHeartbeats 1000000 in
theorem ss_maxPow (w : World) : Calls Tryz.prog 91 #[.int .u64 10] w fun e w' => ∃ bn : Nat, e = .returned (.tuple #[.int .u64 (bn : Int), .int .i64 19]) ∧ bn = tp 19 ∧ w = w' := by
  go_enter Tryz.func91, Tryz.ntmps91
  go_wp2
  go_loop [2, 3] (fun p n => ∃ k : Nat, 1 ≤ k ∧ k ≤ 19 ∧ p = .int .u64 ((tp k : Nat) : Int) ∧ n = .int .i64 (k : Int)) (fun p n => 20 - ssN n)
  case atStart => exact ⟨1, by omega, by omega, rfl, rfl⟩
  case round =>
    obtain ⟨k, hk1, hk2, rfl, rfl⟩ := hrel
    by_cases h : k ≤ 18
    · have h1 := tp_le h
      have h2 := tp_succ k
      have h3 := tp_le (show k + 1 ≤ 19 by omega)
      rw [tp18] at h1
      rw [tp19] at h3
      have hd : decide (((tp k : Nat) : Int) ≤ 1844674407370955161) = true := decide_eq_true (by omega)
      have hw : IntKind.u64.wrap (((tp k : Nat) : Int) * 10) = ((tp (k + 1) : Nat) : Int) := by
        rw [← ss_wrapu (tp (k + 1)) (by omega), h2]
        rfl
      have HP := Aside0.mk hw
      clear h1 h2 h3 hw
      obtain ⟨P, hP⟩ : ∃ P, P = tp k := ⟨_, rfl⟩
      obtain ⟨Q, hQ⟩ : ∃ Q, Q = tp (k + 1) := ⟨_, rfl⟩
      rw [← hP] at hd
      rw [← hP, ← hQ] at HP
      rw [← hP]
      have HQ := Aside0.mk hQ
      clear hP hQ
      go_wp2
      go_round
      case rel => exact ⟨k + 1, by omega, by omega, by rw [← HQ.out, HP.out], by go_num⟩
      case measure =>
        show 20 - ssN _ < 20 - ssN _
        simp only [ssN]
        omega
    · obtain rfl : k = 19 := by omega
      have hd : decide (((tp 19 : Nat) : Int) ≤ 1844674407370955161) = false := decide_eq_false (by rw [tp19]; decide)
      have HP : Aside0 (∃ P, P = tp 19) := ⟨⟨_, rfl⟩⟩
      obtain ⟨P, hP⟩ := HP.out
      rw [← hP] at hd ⊢
      have HQ := Aside0.mk hP
      clear hP HP
      go_wp2
      go_ret2
      exact ⟨P, rfl, HQ.out, rfl⟩
theorem ss_pow_step (P X n E : Nat) (h : (P * X ^ n) % 18446744073709551616 = E) : ((if n % 2 = 1 then (P * X) % 18446744073709551616 else P) * ((X * X) % 18446744073709551616) ^ (n / 2)) % 18446744073709551616 = E := by
  rw [← h, Nat.mul_mod, Nat.pow_mod, Nat.mod_mod, ← Nat.pow_mod, ← Nat.mul_mod]
  have e2 : X * X = X ^ 2 := by rw [Nat.pow_two]
  rw [e2, ← Nat.pow_mul]
  by_cases hn : n % 2 = 1
  · rw [if_pos hn, Nat.mul_mod, Nat.mod_mod, ← Nat.mul_mod, Nat.mul_assoc]
    congr 2
    have : n = 2 * (n / 2) + 1 := by omega
    conv => rhs; rw [this, Nat.pow_succ]
    rw [Nat.mul_comm]
  · rw [if_neg hn]
    have : 2 * (n / 2) = n := by omega
    rw [this]
theorem ss_odd : ∀ n : Nat, n ≤ 18 → Go.bits .and .i64 (n : Int) 1 = ((n % 2 : Nat) : Int) := by decide
theorem ss_mulw (a b : Nat) : IntKind.u64.wrap ((a : Int) * (b : Int)) = (((a * b) % 18446744073709551616 : Nat) : Int) := by
  rw [IntKind.wrap_u64, Int.natCast_emod, Int.natCast_mul]
  rfl
set_option maxHeartbeats 1000000 in
theorem ss_pow (i : Nat) (hi : i ≤ 18) (w : World) : Calls Tryz.prog 93 #[.int .u64 10, .int .i64 (i : Int)] w fun e w' => ∃ p : Nat, e = .returned (.int .u64 (p : Int)) ∧ p = tp i ∧ w = w' := by
  go_enter Tryz.func93, Tryz.ntmps93
  go_wp2
  go_loop [0, 1, 4] (fun x n p => ∃ P X n' : Nat, x = .int .u64 (X : Int) ∧ n = .int .i64 (n' : Int) ∧ p = .int .u64 (P : Int) ∧ n' ≤ 18 ∧ Aside0 (P < 18446744073709551616 ∧ (P * X ^ n') % 18446744073709551616 = tp i % 18446744073709551616)) (fun x n p => ssN n)
  case atStart => exact ⟨1, 10, i, rfl, rfl, rfl, hi, ⟨by omega, by rw [Nat.one_mul]; rfl⟩⟩
  case round =>
    obtain ⟨P, X, n, rfl, rfl, rfl, hn, HE⟩ := hrel
    by_cases h0 : n = 0
    · subst h0
      have hd : decide ((0 : Int) < ((0 : Nat) : Int)) = false := by decide
      have he : P = tp i := by
        have h1 := HE.out.2
        have h2 := tp_le hi
        rw [tp18] at h2
        rw [Nat.pow_zero, Nat.mul_one, Nat.mod_eq_of_lt HE.out.1, Nat.mod_eq_of_lt (by omega)] at h1
        exact h1
      have HF := Aside0.mk he
      clear he HE
      go_wp2
      go_ret
      exact ⟨P, rfl, HF.out, rfl⟩
    · have hd : decide ((0 : Int) < (n : Int)) = true := decide_eq_true (by omega)
      have hw := ss_mulw X X
      have hs : (n : Int) / 2 = ((n / 2 : Nat) : Int) := by omega
      have hb := ss_odd n hn
      have HE2 := ss_pow_step P X n _ HE.out.2
      by_cases h2 : n % 2 = 1
      · rw [h2] at hb
        rw [if_pos h2] at HE2
        have HE3 : Aside0 ((P * X) % 18446744073709551616 < 18446744073709551616 ∧ _) := ⟨Nat.mod_lt _ (by decide), HE2⟩
        have hw2 := ss_mulw P X
        obtain ⟨Q, hQ⟩ : ∃ Q, Q = (P * X) % 18446744073709551616 := ⟨_, rfl⟩
        obtain ⟨Y, hY⟩ : ∃ Y, Y = (X * X) % 18446744073709551616 := ⟨_, rfl⟩
        obtain ⟨m, hm⟩ : ∃ m, m = n / 2 := ⟨_, rfl⟩
        rw [← hQ, ← hY, ← hm] at HE3
        rw [← hQ] at hw2
        rw [← hY] at hw
        rw [← hm] at hs
        have HM : Aside0 (m ≤ 18 ∧ m < n) := ⟨by omega, by omega⟩
        clear hQ hY hm HE2 h2 HE
        go_wp2
        go_round
        case rel => exact ⟨Q, Y, m, rfl, rfl, rfl, HM.out.1, HE3⟩
        case measure => exact HM.out.2
      · have h3 : n % 2 = 0 := by omega
        rw [h3] at hb
        rw [if_neg h2] at HE2
        have HE3 := Aside0.mk (And.intro HE.out.1 HE2)
        obtain ⟨Y, hY⟩ : ∃ Y, Y = (X * X) % 18446744073709551616 := ⟨_, rfl⟩
        obtain ⟨m, hm⟩ : ∃ m, m = n / 2 := ⟨_, rfl⟩
        rw [← hY, ← hm] at HE3
        rw [← hY] at hw
        rw [← hm] at hs
        have HM : Aside0 (m ≤ 18 ∧ m < n) := ⟨by omega, by omega⟩
        clear hY hm HE2 h2 h3 HE
        go_wp2
        go_round
        case rel => exact ⟨P, Y, m, rfl, rfl, rfl, HM.out.1, HE3⟩
        case measure => exact HM.out.2

open Go.Proofs.YtipfmkfpaglkkaaGreatDoor.Gw
attribute [local go_sem] EV
/-! the loop over the digits -/
theorem dg_get {x : UInt8} (h : By.dg x = true) : 48 ≤ x.toNat ∧ x.toNat ≤ 57 := of_decide_eq_true h
theorem ss_dig_u (d c x : Nat) (hd : d < tp c) (hc : c ≤ 18) (hx0 : 48 ≤ x) (hx1 : x ≤ 57) : IntKind.u64.wrap (IntKind.u64.wrap ((d : Int) * 10) + ((x : Int) - 48)) = ((d * 10 + (x - 48) : Nat) : Int) ∧ d * 10 + (x - 48) < tp (c + 1) ∧ d * 10 + (x - 48) < 18446744073709551616 := by
  have h1 := tp_succ c
  have h2 := tp_le (show c + 1 ≤ 19 by omega)
  rw [tp19] at h2
  refine ⟨?_, by omega, by omega⟩
  rw [IntKind.wrap_u64, IntKind.wrap_u64]
  omega
/-- What a byte tells the loop. -/
theorem ss_dec (x : UInt8) (h : By.dg x = true) : ((x.toNat : Int) == 46) = false ∧ ((x.toNat : Int) == 95) = false ∧ (48 : Int) ≤ (x.toNat : Int) ∧ (x.toNat : Int) ≤ 57 := by
  have := dg_get h
  exact ⟨beq_eq_false_iff_ne.2 (by omega), beq_eq_false_iff_ne.2 (by omega), by omega, by omega⟩
def ScNum (s : ByteArray) (i0 j N d c : Nat) : Prop := c ≤ j ∧ d < tp c ∧ i0 + j ≤ s.size ∧ (dcs s i0 j).all By.dg = true ∧ NV (dcs s i0 j) = N * tp c + d
theorem ScNum.step {s : ByteArray} {i0 j N d c : Nat} (h : ScNum s i0 j N d c) (hlt : i0 + j < s.size) (hx : By.dg s[i0 + j] = true) : ScNum s i0 (j + 1) N (d * 10 + (s[i0 + j].toNat - 48)) (c + 1) := by
  obtain ⟨h0, h1, h2, h3, h4⟩ := h
  have hb := dg_get hx
  rw [ScNum, dcs_step s i0 j hlt, List.all_append, NV_snoc, h3, h4, tp_succ]
  refine ⟨by omega, by omega, by omega, by simpa using hx, ?_⟩
  rw [← Nat.mul_assoc N]
  omega
theorem ScNum.full {s : ByteArray} {i0 j N d c : Nat} (h : ScNum s i0 j N d c) : ScNum s i0 j (N * tp c + d) 0 0 := by
  obtain ⟨h0, h1, h2, h3, h4⟩ := h
  exact ⟨Nat.zero_le _, by simp [tp], h2, h3, by rw [h4]; simp [tp]⟩
/-- The loop's state ahead of a round. -/
def ScL (g base i0 : Nat) (s : ByteArray) (a : Addr) (w : World) (v0 v3 v10 v11 v13 v14 v15 v20 v21 v22 : Value) (wr : World) : Prop := ∃ (j N d c : Nat) (q : Int), v3 = .bool false ∧ v14 = .bool false ∧ v22 = .int .i64 (-1) ∧
  v10 = .int .i64 (j : Int) ∧ (v13 = .int .i32 46 ∨ v13 = .int .i32 48) ∧ v20 = .int .u64 (d : Int) ∧ v21 = .int .i64 (c : Int) ∧ c ≤ 18 ∧ Aside0 (ScNum s i0 j N d c) ∧
  Aside0 (NZ base j wr v0 N) ∧ Aside0 (ErrAt gEOF a wr) ∧ Aside0 (FrS g base w wr) ∧ Nx s (i0 + j) a v11 v15 q ∧ Aside0 (Rdr g s q (-1) wr) ∧ Aside0 (base ≤ wr.heap.size)
/-- The state behind the loop. -/
def ScE (g base i0 : Nat) (s : ByteArray) (a : Addr) (w : World) (v0 v10 v11 v13 v14 v20 v21 v22 : Value) (wr : World) : Prop := ∃ (j N d c : Nat), v14 = .bool false ∧ v22 = .int .i64 (-1) ∧
  v10 = .int .i64 (j : Int) ∧ (v13 = .int .i32 46 ∨ v13 = .int .i32 48) ∧ v20 = .int .u64 (d : Int) ∧ v21 = .int .i64 (c : Int) ∧ c ≤ 18 ∧ Aside0 (ScNum s i0 j N d c) ∧
  Aside0 (NZ base j wr v0 N) ∧ Aside0 (ErrAt gEOF a wr) ∧ Aside0 (FrS g base w wr) ∧ ((∃ h : i0 + j < s.size, By.dg s[i0 + j] = false ∧ v11 = .nilIface) ∨ (i0 + j = s.size ∧ v11 = EV a)) ∧ Aside0 (Rdr g s ((i0 + j : Nat) : Int) (-1) wr) ∧ Aside0 (base ≤ wr.heap.size)
/-- A round that reads one more digit: what holds behind it. -/
theorem ScL.mk {g base i0 : Nat} {s : ByteArray} {a : Addr} {w : World} {v0 v11 v13 v15 : Value} {wr : World} (j N d c : Nat) (q : Int) (h13 : v13 = .int .i32 46 ∨ v13 = .int .i32 48) (hc : c ≤ 18) (hN : ScNum s i0 j N d c) (hZ : NZ base j wr v0 N) (hE : ErrAt gEOF a wr) (hF : FrS g base w wr) (hx : Nx s (i0 + j) a v11 v15 q) (hR : Rdr g s q (-1) wr) (hB : base ≤ wr.heap.size) :
    ScL g base i0 s a w v0 (.bool false) (.int .i64 (j : Int)) v11 v13 (.bool false) v15 (.int .u64 (d : Int)) (.int .i64 (c : Int)) (.int .i64 (-1)) wr :=
  ⟨j, N, d, c, q, rfl, rfl, rfl, rfl, h13, rfl, rfl, hc, ⟨hN⟩, ⟨hZ⟩, ⟨hE⟩, ⟨hF⟩, hx, ⟨hR⟩, ⟨hB⟩⟩
def scN (n : Nat) : Value → Value → Nat
  | .int _ k, .nilIface => n - k.toNat + 1
  | _, _ => 0
theorem scN_lt {n i j : Nat} {s : ByteArray} {a : Addr} {v11 v15 : Value} {q : Int} (h : Nx s i a v11 v15 q) (hj : j < n) : scN n (.int .i64 ((j : Int) + 1)) v11 < scN n (.int .i64 (j : Int)) .nilIface := by
  rcases h with ⟨_, rfl, _⟩ | ⟨_, rfl, _⟩
  · show n - ((j : Int) + 1).toNat + 1 < n - (j : Int).toNat + 1
    omega
  · show 0 < n - (j : Int).toNat + 1
    omega
theorem ScE.stop {g base i0 : Nat} {s : ByteArray} {a : Addr} {w : World} {v0 v13 : Value} {wr W2 : World} (j N d c : Nat) (h13 : v13 = .int .i32 46 ∨ v13 = .int .i32 48) (hc : c ≤ 18) (hN : ScNum s i0 j N d c) (hZ : NZ base j wr v0 N) (hE : ErrAt gEOF a wr) (hF : FrS g base w wr) (hx : ∃ h : i0 + j < s.size, By.dg s[i0 + j] = false) (hR : Rdr g s ((i0 + j : Nat) : Int) (-1) W2) (hS : Side g wr W2) (hB : base ≤ wr.heap.size) (hne : gEOF ≠ g) (hg : g < base) :
    ScE g base i0 s a w v0 (.int .i64 (j : Int)) .nilIface v13 (.bool false) (.int .u64 (d : Int)) (.int .i64 (c : Int)) (.int .i64 (-1)) W2 := by
  obtain ⟨h1, h2⟩ := hx
  exact ⟨j, N, d, c, rfl, rfl, rfl, h13, rfl, rfl, hc, ⟨hN⟩, ⟨hZ.side hS hg⟩, ⟨hE.side hS hne⟩, ⟨hF.side hS⟩, .inl ⟨h1, h2, rfl⟩, ⟨hR⟩, ⟨by rw [hS.2.1]; exact hB⟩⟩
theorem _root_.Go.Proofs.YtipfmkfpaglkkaaGreatDoor.Gw.ErrAt.fr {ge g base : Nat} {a : Addr} {w w' : World} (h : ErrAt ge a w) (hs : FrS g base w w') (hne : ge ≠ g) (hb : ge < base) : ErrAt ge a w' := (World.cell?_of_block (w := w) (hs.1 ge hb hne)).trans h
theorem NZ.zero {base : Nat} {w : World} {v : Value} {N : Nat} (h : NZ base 0 w v N) : v = .slice none 0 0 ∧ N = 0 := by
  obtain ⟨ws, h1, h2, h3, h4⟩ := h
  have h5 : ws = [] := List.eq_nil_of_length_eq_zero (by omega)
  subst h5
  have h6 : (0 : Int) = (N : Int) := h2
  rcases h4 with ⟨h, _⟩ | ⟨h, _⟩
  · exact ⟨h, by omega⟩
  · omega
/-- What scan answers. -/
def ScP (g base i0 : Nat) (s : ByteArray) (a2 : Addr) (w : World) (e : Ending) (w' : World) : Prop := ∃ j : Nat, i0 + j ≤ s.size ∧ (dcs s i0 j).all By.dg = true ∧ ((∃ h : i0 + j < s.size, By.dg s[i0 + j] = false) ∨ i0 + j = s.size) ∧ Rdr g s ((i0 + j : Nat) : Int) (-1) w' ∧ FrS g base w w' ∧
  ((j = 0 ∧ e = .returned (.tuple #[.slice none 0 0, .int .i64 10, .int .i64 0, EV a2])) ∨ (1 ≤ j ∧ ∃ v, e = .returned (.tuple #[v, .int .i64 10, .int .i64 (j : Int), .nilIface]) ∧ NZ base (j + 1) w' v (NV (dcs s i0 j))))
theorem ss_cmpE : (Tryz.prog.info? 156).map (fun i => i.comparable) = some true := by kernel_rfl
theorem ss_infE : (Tryz.prog.info? 172).isSome = true := by kernel_rfl
theorem ss_eqE (a : Addr) (W : World) : (binOp .eql 84 (.iface 156 (.pointer (some a))) (.iface 156 (.pointer (some a)))).run Tryz.prog W = .ok (.bool true) W := by
  obtain ⟨i, h1, h2⟩ := Option.map_eq_some_iff.1 ss_cmpE
  obtain ⟨j, h3⟩ := Option.isSome_iff_exists.1 ss_infE
  exact run_eql_iface_ptr_same W a Tryz.underlying84 Tryz.underlying156 h1 h2 h3

set_option maxRecDepth 100000 in
set_option maxHeartbeats 4000000 in
theorem ss_scan (g base : Nat) (s : ByteArray) (p : Int) (i0 : Nat) (a : Addr) (w : World) (hi : i0 ≤ s.size) (hs : s.size ≤ 1000000) (hr : Rdr g s (i0 : Int) p w) (he : ErrAt gEOF a w) (hne : gEOF ≠ g) (hgb : g < base) (hEb : gEOF < base) (hbw : base ≤ w.heap.size) (a2 : Addr) (he2 : ErrAt gND a2 w) (hne2 : gND ≠ g) (hNb : gND < base) :
    Calls Tryz.prog 90 #[.slice none 0 0, RI g, .int .i64 10, .bool false] w (ScP g base i0 s a2 w) := by
  have hC := Aside0.mk (ss_next g i0 s p a w hi hs hr he hne)
  have hM := Aside0.mk (fun W => ss_maxPow W)
  have HE := Aside0.mk he
  have HH : Aside0 (i0 ≤ s.size ∧ s.size ≤ 1000000 ∧ gEOF ≠ g ∧ g < base ∧ gEOF < base ∧ base ≤ w.heap.size) := ⟨hi, hs, hne, hgb, hEb, hbw⟩
  have HND : Aside0 (ErrAt gND a2 w ∧ gND ≠ g ∧ gND < base) := ⟨he2, hne2, hNb⟩
  clear hr he hne hs hi hgb hEb hbw he2 hne2 hNb
  go_enter Tryz.func90, Tryz.ntmps90
  go_wp2_with (show Calls Tryz.prog 130 #[.pointer (some ⟨g, 0, none⟩)] _ _; (with_reducible refine (hC.out).mono ?_); rintro e W1 ⟨v11, v15, q, rfl, h0, h1, h2⟩; have H0 := Aside0.mk h0; have H1 := Aside0.mk h1; have H2 := Aside0.mk h2; clear h0 h1 h2)
  go_upto_block 2 with (go_at_call 91; (with_reducible refine (hM.out _).mono ?_); rintro e w' ⟨bn, rfl, hbn, rfl⟩; have HBN := Aside0.mk hbn; clear hbn)
  go_cut [0, 10, 11, 13, 14, 20, 21, 22] (fun v0 v10 v11 v13 v14 v20 v21 v22 wc => Aside0 (ScE g base i0 s a w v0 v10 v11 v13 v14 v20 v21 v22 wc))
  case first =>
    go_wp2_with fail
    go_loopw [0, 3, 10, 11, 13, 14, 15, 20, 21, 22] (fun v0 v3 v10 v11 v13 v14 v15 v20 v21 v22 wi => ScL g base i0 s a w v0 v3 v10 v11 v13 v14 v15 v20 v21 v22 wi) (fun v0 v3 v10 v11 v13 v14 v15 v20 v21 v22 wi => scN s.size v10 v11)
    case atStart => exact ScL.mk 0 0 0 0 q (.inl rfl) (by omega) ⟨Nat.le_refl _, by simp [tp], HH.out.1, rfl, rfl⟩ (NZ.nil _ _ _) (HE.out.side H2.out HH.out.2.2.1) ((FrS.refl g base w).side H2.out) H0.out H1.out (by rw [H2.out.2.1]; exact HH.out.2.2.2.2.2)
    case round =>
      obtain ⟨j, N, d, c, q2, rfl, rfl, rfl, rfl, h13, rfl, rfl, hc, HN, HZ, HEr, HF, hnx, HR, HB⟩ := hrel
      clear H0 H1 H2
      have H13 := Aside0.mk h13
      clear h13
      rcases hnx with ⟨hlt, rfl, rfl, hq⟩ | ⟨hend, rfl, rfl, hq⟩
      · have HQ := Aside0.mk hq
        have HR2 : Aside0 (Rdr g s ((i0 + j + 1 : Nat) : Int) (-1) wr) := ⟨by have := HR.out; rw [hq] at this; exact this⟩
        clear hq HQ HR
        by_cases hdg : By.dg s[i0 + j] = true
        · obtain ⟨b46, b95, hx0, hx1⟩ := ss_dec _ hdg
          have HS := Aside0.mk (HN.out.step hlt hdg)
          obtain ⟨hu, hu2, hu3⟩ := ss_dig_u d c s[i0 + j].toNat HN.out.2.1 hc (by omega) (by omega)
          have HU := Aside0.mk (And.intro hu2 hu3)
          have hj : wrap64 ((j : Int) + 1) = (j : Int) + 1 := Evs.wrap_in (by omega) (by have := HH.out.2.1; omega)
          have HC : Aside0 (∀ W, Rdr g s ((i0 + j + 1 : Nat) : Int) (-1) W → ErrAt gEOF a W → _) := ⟨fun W h1 h2 => ss_next g (i0 + j + 1) s (-1) a W (by omega) HH.out.2.1 h1 h2 HH.out.2.2.1⟩
          have HJ : Aside0 (j < s.size) := ⟨by omega⟩
          clear hdg hu2 hu3 HN hC
          generalize s[i0 + j].toNat = y at b46 b95 hx0 hx1 hu HU HS ⊢
          clear hlt
          obtain ⟨dn, hdn⟩ : ∃ dn, dn = d * 10 + (y - 48) := ⟨_, rfl⟩
          rw [← hdn] at hu HU HS
          have HDN := Aside0.mk hdn
          clear hdn
          by_cases h18 : c = 18
          · subst h18
            have he : ((18 : Int) + 1 == 19) = true := rfl
            have hbn : ((bn : Int) == 0) = false := beq_eq_false_iff_ne.2 (by rw [HBN.out, tp19]; decide)
            have hbn2 : (bn == 0) = false := beq_eq_false_iff_ne.2 (by rw [HBN.out, tp19]; decide)
            have hA := Aside0.mk (ss_mulAddWW base j N bn dn u0 (by have := HH.out.2.1; have := HJ.out; omega) (by rw [HBN.out]; exact tp_pos 19) (by rw [HBN.out, tp19]; decide) HU.out.2 wr HB.out HZ.out)
            have hFin : Aside0 (ScNum s i0 (j + 1) (N * bn + dn) 0 0) := ⟨by have := HS.out.full; rw [HBN.out]; exact this⟩
            go_wp2_with (go_at_call 92; (with_reducible refine (hA.out).mono ?_))
            rintro e W2 ⟨v', rfl, hz, hbl⟩
            have HBL := Aside0.mk hbl
            have HZ2 := Aside0.mk hz
            have HR3 := Aside0.mk (HR2.out.below hbl HH.out.2.2.2.1)
            have HE3 : Aside0 (ErrAt gEOF a W2) := ⟨(hbl.cell (p := ⟨gEOF, 0, none⟩) HH.out.2.2.2.2.1).trans HEr.out⟩
            have hC2 := Aside0.mk (HC.out W2 HR3.out HE3.out)
            clear hz hbl HC
            go_wp2_with (show Calls Tryz.prog 130 #[.pointer (some ⟨g, 0, none⟩)] _ _; (with_reducible refine (hC2.out).mono ?_); rintro e W3 ⟨v11, v15, q, rfl, h0, h1, h2⟩; have H0 := Aside0.mk h0; have H1 := Aside0.mk h1; have H2 := Aside0.mk h2; clear h0 h1 h2)
            go_roundw
            case rel => exact ScL.mk (j + 1) (N * bn + dn) 0 0 q (.inr rfl) (by omega) hFin.out (HZ2.out.side H2.out HH.out.2.2.2.1) (HE3.out.side H2.out HH.out.2.2.1) ((HF.out.below HBL.out HH.out.2.2.2.1).side H2.out) H0.out H1.out (by rw [H2.out.2.1]; exact Nat.le_trans HB.out HBL.out.size)
            case measure => exact scN_lt H0.out HJ.out
          · have he : ((c : Int) + 1 == 19) = false := beq_eq_false_iff_ne.2 (by omega)
            have HC18 : Aside0 (c + 1 ≤ 18) := ⟨by omega⟩
            have hC2 := Aside0.mk (HC.out wr HR2.out HEr.out)
            clear h18 HC
            go_wp2_with (show Calls Tryz.prog 130 #[.pointer (some ⟨g, 0, none⟩)] _ _; (with_reducible refine (hC2.out).mono ?_); rintro e W2 ⟨v11, v15, q, rfl, h0, h1, h2⟩; have H0 := Aside0.mk h0; have H1 := Aside0.mk h1; have H2 := Aside0.mk h2; clear h0 h1 h2)
            go_roundw
            case rel => exact ScL.mk (j + 1) N dn (c + 1) q (.inr rfl) HC18.out HS.out ((HZ.out.side H2.out HH.out.2.2.2.1).more (by omega)) (HEr.out.side H2.out HH.out.2.2.1) (HF.out.side H2.out) H0.out H1.out (by rw [H2.out.2.1]; exact HB.out)
            case measure => exact scN_lt H0.out HJ.out
        · have hC3 := Aside0.mk (ss_unread g ((i0 + j : Nat) : Int) s (-1) wr (by omega) (by have := HH.out.2.1; omega) HR2.out)
          have HDG : Aside0 (∃ h : i0 + j < s.size, By.dg s[i0 + j] = false) := ⟨hlt, by simpa using hdg⟩
          have hn : ¬ (48 ≤ s[i0 + j].toNat ∧ s[i0 + j].toNat ≤ 57) := fun h => hdg (decide_eq_true h)
          have hy : s[i0 + j].toNat < 256 := UInt8.toNat_lt _
          clear hdg hC
          generalize s[i0 + j].toNat = y at hn hy ⊢
          clear hlt
          have hsp : (97 ≤ y ∧ y ≤ 122) ∨ (65 ≤ y ∧ y ≤ 90) ∨ (y < 46 ∨ y = 47) ∨ (58 ≤ y ∧ y ≤ 64) ∨ (91 ≤ y ∧ y ≤ 94 ∨ y = 96) ∨ (123 ≤ y) ∨ y = 46 ∨ y = 95 := by omega
          clear hn
          rcases hsp with hc0 | hc0 | hc0 | hc0 | hc0 | hc0 | rfl | rfl
          · have b46 : ((y : Int) == 46) = false := beq_eq_false_iff_ne.2 (by omega)
            have b95 : ((y : Int) == 95) = false := beq_eq_false_iff_ne.2 (by omega)
            have d1 : decide ((48 : Int) ≤ (y : Int)) = true := decide_eq_true (by omega)
            have d2 : decide ((y : Int) ≤ 57) = false := decide_eq_false (by omega)
            have d3 : decide ((97 : Int) ≤ (y : Int)) = true := decide_eq_true (by omega)
            have d4 : decide ((y : Int) ≤ 122) = true := decide_eq_true (by omega)
            have d5 : decide ((65 : Int) ≤ (y : Int)) = true := decide_eq_true (by omega)
            have d6 : decide ((y : Int) ≤ 90) = false := decide_eq_false (by omega)
            have x0 : (97 : Int) ≤ (y : Int) := by omega
            have x1 : (y : Int) ≤ 122 := by omega
            clear hc0 hy
            go_wp2_with (show Calls Tryz.prog 131 #[.pointer (some ⟨g, 0, none⟩)] _ _; (with_reducible refine (hC3.out).mono ?_); rintro e W2 ⟨rfl, h1, h2⟩; have H1 := Aside0.mk h1; have H3 := Aside0.mk h2; clear h1 h2)
            go_meet
            exact ⟨ScE.stop j N d c H13.out hc HN.out HZ.out HEr.out HF.out HDG.out H1.out H3.out HB.out HH.out.2.2.1 HH.out.2.2.2.1⟩
          · have b46 : ((y : Int) == 46) = false := beq_eq_false_iff_ne.2 (by omega)
            have b95 : ((y : Int) == 95) = false := beq_eq_false_iff_ne.2 (by omega)
            have d1 : decide ((48 : Int) ≤ (y : Int)) = true := decide_eq_true (by omega)
            have d2 : decide ((y : Int) ≤ 57) = false := decide_eq_false (by omega)
            have d3 : decide ((97 : Int) ≤ (y : Int)) = false := decide_eq_false (by omega)
            have d4 : decide ((y : Int) ≤ 122) = true := decide_eq_true (by omega)
            have d5 : decide ((65 : Int) ≤ (y : Int)) = true := decide_eq_true (by omega)
            have d6 : decide ((y : Int) ≤ 90) = true := decide_eq_true (by omega)
            have x0 : (65 : Int) ≤ (y : Int) := by omega
            have x1 : (y : Int) ≤ 90 := by omega
            clear hc0 hy
            go_wp2_with (show Calls Tryz.prog 131 #[.pointer (some ⟨g, 0, none⟩)] _ _; (with_reducible refine (hC3.out).mono ?_); rintro e W2 ⟨rfl, h1, h2⟩; have H1 := Aside0.mk h1; have H3 := Aside0.mk h2; clear h1 h2)
            go_meet
            exact ⟨ScE.stop j N d c H13.out hc HN.out HZ.out HEr.out HF.out HDG.out H1.out H3.out HB.out HH.out.2.2.1 HH.out.2.2.2.1⟩
          · have b46 : ((y : Int) == 46) = false := beq_eq_false_iff_ne.2 (by omega)
            have b95 : ((y : Int) == 95) = false := beq_eq_false_iff_ne.2 (by omega)
            have d1 : decide ((48 : Int) ≤ (y : Int)) = false := decide_eq_false (by omega)
            have d2 : decide ((y : Int) ≤ 57) = true := decide_eq_true (by omega)
            have d3 : decide ((97 : Int) ≤ (y : Int)) = false := decide_eq_false (by omega)
            have d4 : decide ((y : Int) ≤ 122) = true := decide_eq_true (by omega)
            have d5 : decide ((65 : Int) ≤ (y : Int)) = false := decide_eq_false (by omega)
            have d6 : decide ((y : Int) ≤ 90) = true := decide_eq_true (by omega)
            clear hc0 hy
            go_wp2_with (show Calls Tryz.prog 131 #[.pointer (some ⟨g, 0, none⟩)] _ _; (with_reducible refine (hC3.out).mono ?_); rintro e W2 ⟨rfl, h1, h2⟩; have H1 := Aside0.mk h1; have H3 := Aside0.mk h2; clear h1 h2)
            go_meet
            exact ⟨ScE.stop j N d c H13.out hc HN.out HZ.out HEr.out HF.out HDG.out H1.out H3.out HB.out HH.out.2.2.1 HH.out.2.2.2.1⟩
          · have b46 : ((y : Int) == 46) = false := beq_eq_false_iff_ne.2 (by omega)
            have b95 : ((y : Int) == 95) = false := beq_eq_false_iff_ne.2 (by omega)
            have d1 : decide ((48 : Int) ≤ (y : Int)) = true := decide_eq_true (by omega)
            have d2 : decide ((y : Int) ≤ 57) = false := decide_eq_false (by omega)
            have d3 : decide ((97 : Int) ≤ (y : Int)) = false := decide_eq_false (by omega)
            have d4 : decide ((y : Int) ≤ 122) = true := decide_eq_true (by omega)
            have d5 : decide ((65 : Int) ≤ (y : Int)) = false := decide_eq_false (by omega)
            have d6 : decide ((y : Int) ≤ 90) = true := decide_eq_true (by omega)
            clear hc0 hy
            go_wp2_with (show Calls Tryz.prog 131 #[.pointer (some ⟨g, 0, none⟩)] _ _; (with_reducible refine (hC3.out).mono ?_); rintro e W2 ⟨rfl, h1, h2⟩; have H1 := Aside0.mk h1; have H3 := Aside0.mk h2; clear h1 h2)
            go_meet
            exact ⟨ScE.stop j N d c H13.out hc HN.out HZ.out HEr.out HF.out HDG.out H1.out H3.out HB.out HH.out.2.2.1 HH.out.2.2.2.1⟩
          · have b46 : ((y : Int) == 46) = false := beq_eq_false_iff_ne.2 (by omega)
            have b95 : ((y : Int) == 95) = false := beq_eq_false_iff_ne.2 (by omega)
            have d1 : decide ((48 : Int) ≤ (y : Int)) = true := decide_eq_true (by omega)
            have d2 : decide ((y : Int) ≤ 57) = false := decide_eq_false (by omega)
            have d3 : decide ((97 : Int) ≤ (y : Int)) = false := decide_eq_false (by omega)
            have d4 : decide ((y : Int) ≤ 122) = true := decide_eq_true (by omega)
            have d5 : decide ((65 : Int) ≤ (y : Int)) = true := decide_eq_true (by omega)
            have d6 : decide ((y : Int) ≤ 90) = false := decide_eq_false (by omega)
            clear hc0 hy
            go_wp2_with (show Calls Tryz.prog 131 #[.pointer (some ⟨g, 0, none⟩)] _ _; (with_reducible refine (hC3.out).mono ?_); rintro e W2 ⟨rfl, h1, h2⟩; have H1 := Aside0.mk h1; have H3 := Aside0.mk h2; clear h1 h2)
            go_meet
            exact ⟨ScE.stop j N d c H13.out hc HN.out HZ.out HEr.out HF.out HDG.out H1.out H3.out HB.out HH.out.2.2.1 HH.out.2.2.2.1⟩
          · have b46 : ((y : Int) == 46) = false := beq_eq_false_iff_ne.2 (by omega)
            have b95 : ((y : Int) == 95) = false := beq_eq_false_iff_ne.2 (by omega)
            have d1 : decide ((48 : Int) ≤ (y : Int)) = true := decide_eq_true (by omega)
            have d2 : decide ((y : Int) ≤ 57) = false := decide_eq_false (by omega)
            have d3 : decide ((97 : Int) ≤ (y : Int)) = true := decide_eq_true (by omega)
            have d4 : decide ((y : Int) ≤ 122) = false := decide_eq_false (by omega)
            have d5 : decide ((65 : Int) ≤ (y : Int)) = true := decide_eq_true (by omega)
            have d6 : decide ((y : Int) ≤ 90) = false := decide_eq_false (by omega)
            clear hc0 hy
            go_wp2_with (show Calls Tryz.prog 131 #[.pointer (some ⟨g, 0, none⟩)] _ _; (with_reducible refine (hC3.out).mono ?_); rintro e W2 ⟨rfl, h1, h2⟩; have H1 := Aside0.mk h1; have H3 := Aside0.mk h2; clear h1 h2)
            go_meet
            exact ⟨ScE.stop j N d c H13.out hc HN.out HZ.out HEr.out HF.out HDG.out H1.out H3.out HB.out HH.out.2.2.1 HH.out.2.2.2.1⟩
          · clear hy
            go_wp2_with (show Calls Tryz.prog 131 #[.pointer (some ⟨g, 0, none⟩)] _ _; (with_reducible refine (hC3.out).mono ?_); rintro e W2 ⟨rfl, h1, h2⟩; have H1 := Aside0.mk h1; have H3 := Aside0.mk h2; clear h1 h2)
            go_meet
            exact ⟨ScE.stop j N d c H13.out hc HN.out HZ.out HEr.out HF.out HDG.out H1.out H3.out HB.out HH.out.2.2.1 HH.out.2.2.2.1⟩
          · clear hy
            go_wp2_with (show Calls Tryz.prog 131 #[.pointer (some ⟨g, 0, none⟩)] _ _; (with_reducible refine (hC3.out).mono ?_); rintro e W2 ⟨rfl, h1, h2⟩; have H1 := Aside0.mk h1; have H3 := Aside0.mk h2; clear h1 h2)
            go_meet
            exact ⟨ScE.stop j N d c H13.out hc HN.out HZ.out HEr.out HF.out HDG.out H1.out H3.out HB.out HH.out.2.2.1 HH.out.2.2.2.1⟩
      · have HQ := Aside0.mk hq
        have HEND := Aside0.mk hend
        clear hend hq HH
        go_wp2
        go_meet
        exact ⟨⟨j, N, d, c, rfl, rfl, rfl, H13.out, rfl, rfl, hc, HN, HZ, HEr, HF, .inr ⟨HEND.out.symm, rfl⟩, ⟨by have := HR.out; rw [HQ.out] at this; exact this⟩, HB⟩⟩
  case rest =>
    clear hC hM HE H0 H1 H2
    obtain ⟨j, N, d, c, rfl, rfl, rfl, h13, rfl, rfl, hc, HN, HZ, HEr, HF, hx, HR, HB⟩ := hcut.out
    clear hcut
    have hEOF : wc.cell? ⟨gEOF, 0, none⟩ = some (EV a) := HEr.out
    have hND : wc.cell? ⟨gND, 0, none⟩ = some (EV a2) := HND.out.1.fr HF.out HND.out.2.1 HND.out.2.2
    have hq0 : ∀ W, (binOp .eql 84 .nilIface (.iface 156 (.pointer (some a)))).run Tryz.prog W = .ok (.bool false) W := fun W => run_eql_iface_nil_left _ _ _ Tryz.underlying84
    have hq1 := ss_eqE a
    have hbn : ((bn : Int) == 0) = false := beq_eq_false_iff_ne.2 (by rw [HBN.out, tp19]; decide)
    have hbn2 : (bn == 0) = false := beq_eq_false_iff_ne.2 (by rw [HBN.out, tp19]; decide)
    have HX : Aside0 ((∃ h : i0 + j < s.size, By.dg s[i0 + j] = false) ∨ i0 + j = s.size) := ⟨hx.imp (fun ⟨h1, h2, _⟩ => ⟨h1, h2⟩) (fun ⟨h1, _⟩ => h1)⟩
    have hu : u11 = .nilIface ∨ u11 = EV a := hx.imp (fun ⟨_, _, h⟩ => h) (fun ⟨_, h⟩ => h)
    have HK : Aside0 (i0 + j ≤ s.size ∧ (dcs s i0 j).all By.dg = true ∧ NV (dcs s i0 j) = N * tp c + d ∧ d < tp c ∧ c ≤ j) := ⟨HN.out.2.2.1, HN.out.2.2.2.1, HN.out.2.2.2.2, HN.out.2.1, HN.out.1⟩
    clear hx HN
    by_cases hj : j = 0
    · subst hj
      obtain ⟨rfl, rfl⟩ := HZ.out.zero
      obtain rfl : c = 0 := by have := HK.out.2.2.2.2; omega
      have hd0 : d = 0 := by have := HK.out.2.2.2.1; simp [tp] at this; exact this
      subst hd0
      rcases hu with rfl | rfl <;> rcases h13 with rfl | rfl
      all_goals
        go_wp2
        exact bodyPost_ret (v := .tuple #[.slice none 0 0, .int .i64 10, .int .i64 0, EV a2]) (by simp [results, Tryz.results90, go_sem]) rfl ⟨0, HK.out.1, HK.out.2.1, HX.out, HR.out, HF.out, .inl ⟨rfl, rfl⟩⟩
    · have hj0 : ((j : Int) == 0) = false := beq_eq_false_iff_ne.2 (by omega)
      have hj02 : (j == 0) = false := beq_eq_false_iff_ne.2 hj
      have HJ : Aside0 (1 ≤ j) := ⟨by omega⟩
      clear hj
      by_cases h0 : c = 0
      · subst h0
        have hd0 : d = 0 := by have := HK.out.2.2.2.1; simp [tp] at this; exact this
        subst hd0
        rcases hu with rfl | rfl <;> rcases h13 with rfl | rfl
        all_goals
          go_wp2
          exact bodyPost_ret (v := .tuple #[u0, .int .i64 10, .int .i64 (j : Int), .nilIface]) (by simp [results, Tryz.results90, go_sem]) rfl ⟨j, HK.out.1, HK.out.2.1, HX.out, HR.out, HF.out, .inr ⟨HJ.out, u0, rfl, by have h := HZ.out.more (Nat.le_succ j); have h2 := HK.out.2.2.1; simp [tp] at h2; rw [h2]; exact h⟩⟩
      · have hc0 : decide ((0 : Int) < (c : Int)) = true := decide_eq_true (by omega)
        have hc02 : decide (0 < c) = true := decide_eq_true (by omega)
        have hc03 : 0 < c := by omega
        have hc04 : (0 : Int) < (c : Int) := by omega
        have hP := Aside0.mk (fun W => ss_pow c hc W)
        have hA : Aside0 (∀ p : Nat, p = tp c → _) := ⟨fun p hp => ss_mulAddWW base j N p d u0 (by have := HH.out.2.1; have := HK.out.1; omega) (by rw [hp]; exact tp_pos c) (by rw [hp]; have := tp_le hc; rw [tp18] at this; omega) (by have := HK.out.2.2.2.1; have := tp_le hc; rw [tp18] at this; omega) wc HB.out HZ.out⟩
        clear h0
        rcases hu with rfl | rfl <;> rcases h13 with rfl | rfl
        all_goals
          go_wp2_with (first | (go_at_call 93; (with_reducible refine (hP.out _).mono ?_); rintro e w' ⟨p, rfl, hp, rfl⟩; have HP2 := Aside0.mk hp; have hA2 := Aside0.mk (hA.out p hp); clear hp) | (go_at_call 92; (with_reducible refine (hA2.out).mono ?_)))
          rintro e W2 ⟨v', rfl, hz, hbl⟩
          have HZ2 : Aside0 (NZ base (j + 1) W2 v' (NV (dcs s i0 j))) := ⟨by rw [HK.out.2.2.1, ← HP2.out]; exact hz⟩
          have HR2 := Aside0.mk (HR.out.below hbl HH.out.2.2.2.1)
          have HF2 := Aside0.mk (HF.out.below hbl HH.out.2.2.2.1)
          clear hz hbl
          go_wp2
          exact bodyPost_ret (v := .tuple #[v', .int .i64 10, .int .i64 (j : Int), .nilIface]) (by simp [results, Tryz.results90, go_sem]) rfl ⟨j, HK.out.1, HK.out.2.1, HX.out, HR2.out, HF2.out, .inr ⟨HJ.out, v', rfl, HZ2.out⟩⟩


end Go.Proofs.YtipfmkfpaglkkaaGreatDoor.Ss
