/- Numbers as bytes. -/
import Derived.Test.YtnbokeodgendkaaDoorProg
import Derived.Below
import Derived.Deep.Draws
import Derived.Deep.AppendLies
import Derived.Maps.AppendAt
import Derived.OwnWalk
import Derived.Laws.BytesArg
import Derived.Laws.MakeOwn
import Derived.Laws.OwnMore
import Derived.Deep.OwnRows
import Derived.Tactics
import Derived.Lib.ConvBytes
import Derived.Laws.Slices
import Derived.WalkKit
import Derived.KernelRfl
import Derived.RowKit3
import Derived.Deep.LoopGhost
import Derived.Deep.QuietTactic
import Derived.BigQuiet
import Derived.WideLaws
import Derived.Deep.DeepCutAuto
import Derived.Deep.CutBlock
import Derived.Deep.RegionHeld3
import Derived.Laws.Rows
import Derived.Lib.AppendStr
import Derived.ArgAppend
import Derived.Laws.IdiomCopy
import Derived.OrdersHeld
import Derived.Laws.BitsLemmas
import Derived.RowKit
import Derived.Test.YtnbokeodgendkaaDoorWWords
import Derived.Test.YtnbokeodgendkaaDoorWLast
import Derived.Test.YtnbokeodgendkaaDoorWMore
import Derived.Test.YtnbokeodgendkaaDoorWN
import Derived.Test.YtnbokeodgendkaaDoorWKept
import Derived.Test.YtnbokeodgendkaaDoorWShare
import Derived.Test.YtnbokeodgendkaaDoorWInvWords
import Derived.Test.YtnbokeodgendkaaDoorGe
import Derived.Test.YtnbokeodgendkaaDoorSsA
import Derived.Test.YtnbokeodgendkaaDoorSsB
import Derived.Test.YtnbokeodgendkaaDoorSsC
namespace Go.Proofs.YtnbokeodgendkaaDoor.Ss
open Go Go.RowKit Go.Proofs.YtnbokeodgendkaaDoorW.PrintWords Go.Proofs.YtnbokeodgendkaaDoorW.PrintLast Go.Proofs.YtnbokeodgendkaaDoorW.PrintMore
attribute [local go_sem high] Go.Proofs.YtnbokeodgendkaaDoor.Ge.gtr_str
attribute [local go_sem] max2_int min2_int max_two min_two max_three min_three max_four min_four
set_option linter.unusedVariables false
set_option linter.unusedSimpArgs false

/-! a number's bytes -/
abbrev TB : Nat := 5
def b8cells (cur : List Int) : Array Value := (cur.map (Value.int .u8)).toArray
def Bu8 (g : Nat) (cur : List Int) (w : World) : Prop := w.heap[g]? = some (.cells (b8cells cur) TB (0, 0))
theorem b8_get (cur : List Int) (i : Nat) (h : i < cur.length) : (b8cells cur)[i]? = some (Value.int .u8 cur[i]) := by
  unfold b8cells
  rw [List.getElem?_toArray, List.getElem?_map, List.getElem?_eq_getElem h]
  rfl
theorem Bu8.cell {g : Nat} {cur : List Int} {w : World} (h : Bu8 g cur w) (i : Nat) (hi : i < cur.length) : w.cell? ⟨g, i, none⟩ = some (.int .u8 cur[i]) := (blk_cell h i).trans (b8_get cur i hi)
theorem Bu8.frozen {g : Nat} {cur : List Int} {w : World} (h : Bu8 g cur w) (i : Nat) : w.frozen? ⟨g, i, none⟩ = false := blk_frozen h i
theorem Bu8.put {g : Nat} {cur : List Int} {w : World} (h : Bu8 g cur w) (i : Nat) (x : Int) : Bu8 g (cur.set i x) (w.setCell ⟨g, i, none⟩ (.int .u8 x)) := by
  refine blk_put h i (.int .u8 x) ?_
  unfold b8cells
  rw [List.map_set]
  simp
theorem Bu8.made (n : Nat) (w : World) : Bu8 w.heap.size (List.replicate n 0) (w.alloc (.cells (madeCells #[Value.int .u8 0] n) TB)) := by
  have e : madeCells #[Value.int .u8 0] n = b8cells (List.replicate n 0) := by
    apply Array.ext'
    rw [toList_madeCells_one]
    unfold b8cells
    simp
  rw [e]
  exact blk_new w _
theorem Bu8.C {g : Nat} {cur : List Int} {w : World} (h : Bu8 g cur w) (hm : cur.length ≤ maxLen) (i : Nat) (hi : i ≤ cur.length) : Kd.C (Kd.int .u8) w (some ⟨g, i, none⟩) (cur.drop i).length (cur.drop i) := by
  refine ⟨rfl, ?_, fun _ => ⟨⟨g, i, none⟩, rfl, fun j p hj => ⟨[.int .u8 p], rfl, ?_, fun k u hu => ?_⟩⟩⟩
  · rw [List.length_drop]
    unfold maxLen at hm
    omega
  · simp [Kd.int, Kd.scalar]
  · have hk : k = 0 := by
      have := (List.getElem?_eq_some_iff.1 hu).1
      simp at this
      exact this
    subst hk
    have hu2 : u = .int .u8 p := by simpa using hu.symm
    subst hu2
    rw [List.getElem?_drop] at hj
    obtain ⟨h1, h2⟩ := List.getElem?_eq_some_iff.1 hj
    have h3 := h.cell (i + j) h1
    rw [h2] at h3
    have e : (Addr.mk g i none).add (j * (Kd.int .u8).sz + 0) = ⟨g, i + j, none⟩ := by
      have : (Kd.int .u8).sz = 1 := rfl
      rw [this, Nat.mul_one, Nat.add_zero]
      simp [Addr.add]
    rw [e]
    exact h3
def bA (xs : List Nat) (m : Nat) : Nat := (xs.getD (m / 8) 0 / 256 ^ (m % 8)) % 256
def bcur (xs : List Nat) (n m : Nat) : List Int := List.replicate (8 * n - m) 0 ++ ni ((List.range m).map (bA xs)).reverse
theorem bcur_length (xs : List Nat) (n m : Nat) (h : m ≤ 8 * n) : (bcur xs n m).length = 8 * n := by
  simp [bcur, ni]
  omega
theorem bcur_zero (xs : List Nat) (n : Nat) : bcur xs n 0 = List.replicate (8 * n) 0 := by simp [bcur, ni]
theorem bcur_set (xs : List Nat) (n m : Nat) (h : m < 8 * n) : (bcur xs n m).set (8 * n - m - 1) ((bA xs m : Nat) : Int) = bcur xs n (m + 1) := by
  have e : 8 * n - m = (8 * n - (m + 1)) + 1 := by omega
  have e2 : 8 * n - m - 1 = 8 * n - (m + 1) := by omega
  unfold bcur
  rw [e2, e, List.replicate_succ', List.append_assoc, List.set_append_right _ _ (by simp), List.length_replicate, Nat.sub_self, List.range_succ]
  simp [ni]
theorem ni_get {xs : List Nat} {k : Nat} (h : k < xs.length) : rd (ni xs) (k : Int) = ((xs.getD k 0 : Nat) : Int) := by
  rw [Evs.rd_nat]
  unfold ni
  rw [List.getD_eq_getElem?_getD, List.getElem?_map, List.getD_eq_getElem?_getD, List.getElem?_eq_getElem h]
  rfl
theorem bA_eq (xs : List Nat) (k t : Nat) (h : t < 8) : bA xs (8 * k + t) = (xs.getD k 0 / 256 ^ t) % 256 := by
  unfold bA
  have e1 : (8 * k + t) / 8 = k := by omega
  have e2 : (8 * k + t) % 8 = t := by omega
  rw [e1, e2]
def lzN (l : List Int) : Nat := (l.takeWhile (· == 0)).length
theorem lz_at : ∀ (l : List Int) (i : Nat), (∀ j, j < i → l[j]? = some 0) → (i = l.length ∨ ∃ x, l[i]? = some x ∧ x ≠ 0) → i = lzN l
  | [], i, h, h2 => by
    rcases h2 with h2 | ⟨x, h2, _⟩
    · exact h2
    · simp at h2
  | y :: l, 0, h, h2 => by
    rcases h2 with h2 | ⟨x, h2, hx⟩
    · simp at h2
    · have e : y = x := by simpa using h2
      subst e
      simp [lzN, hx]
  | y :: l, i + 1, h, h2 => by
    have h0 : y = 0 := by simpa using h 0 (by omega)
    have ih := lz_at l i (fun j hj => by simpa using h (j + 1) (by omega)) (by
      rcases h2 with h2 | ⟨x, h2, hx⟩
      · exact .inl (by simpa using h2)
      · exact .inr ⟨x, by simpa using h2, hx⟩)
    subst h0
    simp only [lzN] at ih ⊢
    simp [ih]
set_option maxRecDepth 100000 in
set_option maxHeartbeats 2000000 in
theorem ss_bytes (A : Option Addr) (c : Nat) (xs : List Nat) (g n : Nat) (w0 w : World) (hn : n = xs.length) (hr : Kd.C (Kd.int .u64) w0 A n (ni xs)) (hc : n ≤ c) (hl : n ≤ 2000000) (hb0 : Below w0.heap.size w0 w) (hg : w0.heap.size ≤ g) (hZ : Bu8 g (List.replicate (8 * n) 0) w) :
    Calls Tryd.prog 75 #[.slice A n c, .slice (some ⟨g, 0, none⟩) (8 * n) (8 * n)] w fun e w' => e = .returned (.int .i64 (lzN (bcur xs n (8 * n)) : Int)) ∧ Bu8 g (bcur xs n (8 * n)) w' ∧ Below w0.heap.size w0 w' := by
  have HR := Aside0.mk hr
  have HB0 := Aside0.mk hb0
  have HH : Aside0 (n = xs.length ∧ n ≤ c ∧ w0.heap.size ≤ g) := ⟨hn, hc, hg⟩
  have HZ : Aside0 (Bu8 g (bcur xs n 0) w) := ⟨by rw [bcur_zero]; exact hZ⟩
  have hml : 8 * n ≤ 9223372036854775807 := by omega
  have hmn : n ≤ 9223372036854775807 := by omega
  clear hn hr hc hb0 hg hZ
  go_enter Tryd.func75, Tryd.ntmps75
  go_wp2
  go_loopw [4, 12] (fun v4 v12 wr => ∃ k : Nat, v4 = .int .i64 ((8 * (n - k) : Nat) : Int) ∧ v12 = .int .i64 (k : Int) ∧ k ≤ n ∧ Aside0 (Bu8 g (bcur xs n (8 * k)) wr) ∧ Aside0 (Below w0.heap.size w0 wr)) (fun v4 v12 wr => n - ssN v12)
  case atStart => exact ⟨0, by first | rfl | simp, rfl, Nat.zero_le _, HZ, HB0⟩
  case round =>
    clear HZ HB0
    obtain ⟨k, rfl, rfl, hk, HZ, HB⟩ := hrel
    by_cases h : k < n
    · have hd : decide ((k : Int) < (n : Int)) = true := decide_eq_true (by omega)
      have hd2 : decide (k < n) = true := decide_eq_true h
      obtain ⟨ad, rfl, hx⟩ := Kd.at_int (Kd.C_below HR.out HB.out) (k : Int) (by omega) (by omega)
      rw [Int.toNat_natCast, ni_get (by have := HH.out.1; omega)] at hx
      have hk0 : (0 : Int) ≤ (k : Int) := by omega
      have hk1 : (k : Int) < (n : Int) := by omega
      obtain ⟨x, hxx⟩ : ∃ x, x = xs.getD k 0 := ⟨_, rfl⟩
      rw [← hxx] at hx
      have HX := Aside0.mk hxx
      clear hxx
      have HXL : Aside0 (k < n) := ⟨h⟩
      clear h
      go_wp2
      obtain ⟨wo, hwo⟩ : ∃ wo : World, wo = wr := ⟨_, rfl⟩
      subst hwo
      go_loopw [4, 6, 7] (fun v4 v6 v7 wr => ∃ m y t : Nat, v4 = .int .i64 (m : Int) ∧ v6 = .int .u64 (y : Int) ∧ v7 = .int .i64 (t : Int) ∧ Aside0 (m + t = 8 * (n - k) ∧ y = x / 256 ^ t) ∧ t ≤ 8 ∧ Aside0 (Bu8 g (bcur xs n (8 * k + t)) wr) ∧ Aside0 (Below w0.heap.size w0 wr)) (fun v4 v6 v7 wr => 8 - ssN v7)
      case atStart => exact ⟨8 * (n - k), x, 0, rfl, rfl, rfl, ⟨rfl, by simp⟩, by omega, HZ, HB⟩
      case round =>
        clear HZ HB hx
        obtain ⟨m, y, t, rfl, rfl, rfl, HE, ht, HZ, HB⟩ := hrel
        by_cases h8 : t < 8
        · have hd8 : decide ((t : Int) < 8) = true := decide_eq_true (by omega)
          have hm := HE.out.1
          have hkn := HXL.out
          have hm1 : 1 ≤ m := by omega
          have hm2 : ((m : Int) - 1).toNat = m - 1 := by omega
          have hm0 : (0 : Int) ≤ (m : Int) - 1 := by omega
          have hm3 : (m : Int) - 1 < 8 * (n : Int) := by omega
          have hm4 : (1 : Int) ≤ (m : Int) := by omega
          have hm5 : m ≤ 8 * n := by omega
          have hmw : wrap64 ((m : Int) - 1) = (m : Int) - 1 := by unfold wrap64; omega
          have hd9 : decide ((0 : Int) ≤ (m : Int) - 1) = true := decide_eq_true (by omega)
          have hlen := bcur_length xs n (8 * k + t) (by omega)
          obtain ⟨cv, hcell⟩ : ∃ cv, wr.cell? ⟨g, m - 1, none⟩ = some cv := ⟨_, HZ.out.cell (m - 1) (by rw [hlen]; omega)⟩
          have hfrz := HZ.out.frozen (m - 1)
          have hby : bA xs (8 * k + t) = y % 256 := by rw [bA_eq xs k t h8, HE.out.2, HX.out]
          have hput := HZ.out.put (m - 1) ((y % 256 : Nat) : Int)
          have hset := bcur_set xs n (8 * k + t) (by omega)
          have e8 : 8 * n - (8 * k + t) - 1 = m - 1 := by omega
          rw [e8, hby] at hset
          rw [hset] at hput
          have hyc : ((y % 256 : Nat) : Int) = (y : Int) % 256 := by omega
          rw [hyc] at hput
          have HP := Aside0.mk hput
          have HB3 : Aside0 (Below w0.heap.size w0 (wr.setCell ⟨g, m - 1, none⟩ (.int .u8 ((y : Int) % 256)))) := ⟨HB.out.setCell (p := ⟨g, m - 1, none⟩) HH.out.2.2 _⟩
          have HE2 : Aside0 (m - 1 + (t + 1) = 8 * (n - k) ∧ y / 256 = x / 256 ^ (t + 1)) := ⟨by omega, by rw [HE.out.2, Nat.pow_succ, Nat.div_div_eq_div_mul]⟩
          have HM1 : Aside0 ((m : Int) - 1 = ((m - 1 : Nat) : Int)) := ⟨by omega⟩
          clear hm hkn hlen hby hput hset e8 HE hyc
          go_wp2
          go_roundw
          case rel => exact ⟨m - 1, y / 256, t + 1, by rw [HM1.out], by first | rfl | (congr 1), by first | rfl | (congr 1), HE2, by omega, HP, HB3⟩
          case measure =>
            show 8 - ssN _ < 8 - ssN _
            simp only [ssN]
            omega
        · obtain rfl : t = 8 := by omega
          have hd8 : decide (((8 : Nat) : Int) < 8) = false := by decide
          have hm : m = 8 * (n - (k + 1)) := by have := HE.out.1; have := HXL.out; omega
          subst hm
          have HK := HXL.out
          go_wp2
          go_roundw
          case rel => exact ⟨k + 1, rfl, by first | rfl | (congr 1), by omega, HZ, HB⟩
          case measure =>
            show n - ssN _ < n - ssN _
            simp only [ssN]
            omega
    · obtain rfl : k = n := by omega
      have hd : decide ((k : Int) < (k : Int)) = false := decide_eq_false (by omega)
      have e0 : 8 * (k - k) = 0 := by omega
      rw [e0]
      clear h e0
      go_wp2
      obtain ⟨wo, hwo⟩ : ∃ wo : World, wo = wr := ⟨_, rfl⟩
      subst hwo
      go_loopw [4] (fun v4 wr => ∃ i : Nat, v4 = .int .i64 (i : Int) ∧ i ≤ 8 * k ∧ Aside0 (wr = wo) ∧ Aside0 (∀ j, j < i → (bcur xs k (8 * k))[j]? = some 0)) (fun v4 wr => 8 * k - ssN v4)
      case atStart => exact ⟨0, rfl, Nat.zero_le _, ⟨rfl⟩, ⟨fun j hj => absurd hj (by omega)⟩⟩
      case round =>
        obtain ⟨i, rfl, hi, ⟨rfl⟩, HA⟩ := hrel
        by_cases h8 : i < 8 * k
        · have hd8 : decide ((i : Int) < 8 * (k : Int)) = true := decide_eq_true (by omega)
          have hd9 : decide (i < 8 * k) = true := decide_eq_true h8
          have hlen := bcur_length xs k (8 * k) (Nat.le_refl _)
          obtain ⟨x, hx⟩ : ∃ x, x = (bcur xs k (8 * k))[i]'(by rw [hlen]; exact h8) := ⟨_, rfl⟩
          have hcell := HZ.out.cell i (by rw [hlen]; exact h8)
          rw [← hx] at hcell
          have hget : (bcur xs k (8 * k))[i]? = some x := by rw [hx, List.getElem?_eq_getElem]
          have HG := Aside0.mk hget
          have hi0 : (0 : Int) ≤ (i : Int) := by omega
          have hi1 : (i : Int) < 8 * (k : Int) := by omega
          clear hx hget hlen
          by_cases hz : x = 0
          · subst hz
            go_wp2
            go_roundw
            case rel => exact ⟨i + 1, by first | rfl | (congr 1), by omega, ⟨by first | rfl | trivial⟩, ⟨fun j hj => by
              rcases Nat.lt_or_ge j i with h | h
              · exact HA.out j h
              · obtain rfl : j = i := by omega
                exact HG.out⟩⟩
            case measure =>
              show 8 * k - ssN _ < 8 * k - ssN _
              simp only [ssN]
              omega
          · have hb : (x == 0) = false := beq_eq_false_iff_ne.2 hz
            have HQ : Aside0 (i = lzN (bcur xs k (8 * k))) := ⟨lz_at _ i HA.out (.inr ⟨x, HG.out, hz⟩)⟩
            clear hz
            go_wp2
            go_ret
            exact ⟨by rw [← HQ.out]; rfl, HZ.out, HB.out⟩
        · have hd8 : decide ((i : Int) < 8 * (k : Int)) = false := decide_eq_false (by omega)
          have hd9 : decide (i < 8 * k) = false := decide_eq_false h8
          have HQ : Aside0 (i = lzN (bcur xs k (8 * k))) := ⟨lz_at _ i HA.out (.inl (by rw [bcur_length _ _ _ (Nat.le_refl _)]; omega))⟩
          clear h8
          go_wp2
          go_ret
          exact ⟨by rw [← HQ.out]; rfl, HZ.out, HB.out⟩

/-! a number's bytes, the highest one first, without zeros ahead -/
def magOf (n : Nat) : List UInt8 := if h : n = 0 then [] else magOf (n / 256) ++ [UInt8.ofNat (n % 256)]
termination_by n
decreasing_by omega
theorem magOf_zero : magOf 0 = [] := by
  rw [magOf]
  rfl
theorem magOf_pos {n : Nat} (h : n ≠ 0) : magOf n = magOf (n / 256) ++ [UInt8.ofNat (n % 256)] := by
  conv => lhs; rw [magOf]
  rw [dif_neg h]
theorem u8_back (n : Nat) (h : n < 256) : (UInt8.ofNat n).toNat = n := by
  simp
  omega
theorem beV_snoc (l : List UInt8) (c : UInt8) : Bv.beV (l ++ [c]) = 256 * Bv.beV l + (c.toNat : Int) := by
  rw [← Bv.beV_le, ← Bv.beV_le, ← By.numsOf_append, List.reverse_append]
  show (c.toNat : Int) + 256 * Bv.leV (By.numsOf l).reverse = _
  omega
theorem magOf_val (n : Nat) : Bv.beV (magOf n) = (n : Int) := by
  induction n using Nat.strongRecOn with
  | ind n ih =>
    by_cases h : n = 0
    · subst h
      rw [magOf_zero]
      rfl
    · rw [magOf_pos h, beV_snoc, ih (n / 256) (by omega), u8_back _ (by omega)]
      omega
theorem magOf_can (n : Nat) : Bv.canB (magOf n) := by
  induction n using Nat.strongRecOn with
  | ind n ih =>
    by_cases h : n = 0
    · subst h
      rw [magOf_zero]
      exact fun h => by cases h
    · have h1 := ih (n / 256) (by omega)
      unfold Bv.canB at h1 ⊢
      rw [magOf_pos h]
      by_cases h2 : n / 256 = 0
      · rw [h2, magOf_zero]
        intro h3
        have h4 : UInt8.ofNat (n % 256) = 0 := by simpa using h3
        have h5 := u8_back (n % 256) (by omega)
        rw [h4] at h5
        have h6 : (0 : UInt8).toNat = 0 := rfl
        omega
      · have h3 := magOf_pos h2
        cases hm : magOf (n / 256) with
        | nil => rw [hm] at h3; simp at h3
        | cons x l => rw [hm] at h1; exact h1
theorem magOf_of {l : List UInt8} {n : Nat} (hc : Bv.canB l) (hv : Bv.beV l = (n : Int)) : l = magOf n := Bv.beV_one hc (magOf_can n) (hv.trans (magOf_val n).symm)
/-! the bytes of a row of words -/
theorem bA_lt (xs : List Nat) (m : Nat) : bA xs m < 256 := Nat.mod_lt _ (by decide)
theorem bA_cons (x : Nat) (xs : List Nat) (m : Nat) : bA (x :: xs) (8 + m) = bA xs m := by
  unfold bA
  have e1 : (8 + m) / 8 = m / 8 + 1 := by omega
  have e2 : (8 + m) % 8 = m % 8 := by omega
  rw [e1, e2]
  rfl
theorem leV_word (x : Nat) (xs : List Nat) (hx : x < 18446744073709551616) : Bv.leV (ni ((List.range 8).map (bA (x :: xs)))) = (x : Int) := by
  have e : (List.range 8).map (bA (x :: xs)) = [x % 256, x / 256 % 256, x / 65536 % 256, x / 16777216 % 256, x / 4294967296 % 256, x / 1099511627776 % 256, x / 281474976710656 % 256, x / 72057594037927936 % 256] := by
    simp [List.range_succ, bA]
  rw [e]
  simp only [ni, List.map_cons, List.map_nil, Bv.leV]
  omega
theorem leV_words : ∀ (xs : List Nat), (∀ x ∈ xs, x < 18446744073709551616) → Bv.leV (ni ((List.range (8 * xs.length)).map (bA xs))) = Big.natW (ni xs)
  | [], _ => rfl
  | x :: xs, h => by
    have ih := leV_words xs (fun y hy => h y (by simp [hy]))
    have e : 8 * (x :: xs).length = 8 + 8 * xs.length := by simp; omega
    have e2 : (List.map (bA (x :: xs)) (List.map (fun m => 8 + m) (List.range (8 * xs.length)))) = List.map (bA xs) (List.range (8 * xs.length)) := by
      rw [List.map_map]
      apply List.map_congr_left
      intro m _
      exact bA_cons x xs m
    rw [e, List.range_add, List.map_append, ni_append, Bv.leV_append, leV_word x xs (h x (by simp)), e2, ih]
    show (x : Int) + 256 ^ (ni ((List.range 8).map (bA (x :: xs)))).length * _ = (x : Int) + 18446744073709551616 * Big.natW (ni xs)
    rw [ni_length, List.length_map, List.length_range]
    rfl
theorem lz_drop : ∀ (l : List UInt8), (By.numsOf l).drop (lzN (By.numsOf l)) = By.numsOf (l.dropWhile (· == 0))
  | [] => rfl
  | c :: l => by
    have ih := lz_drop l
    have e : By.numsOf (c :: l) = (c.toNat : Int) :: By.numsOf l := rfl
    by_cases hc : c = 0
    · subst hc
      have h1 : lzN (By.numsOf (0 :: l)) = lzN (By.numsOf l) + 1 := by
        simp [lzN, e]
      rw [h1, e, List.drop_succ_cons, ih]
      simp
    · have h0 : ((c.toNat : Int) == 0) = false := beq_eq_false_iff_ne.2 (fun h => hc (UInt8.toNat_inj.1 (show c.toNat = (0 : UInt8).toNat by have : (0 : UInt8).toNat = 0 := rfl; omega)))
      have h1 : lzN (By.numsOf (c :: l)) = 0 := by simp [lzN, e, h0]
      have h2 : (c == 0) = false := beq_eq_false_iff_ne.2 hc
      rw [h1, List.drop_zero, List.dropWhile_cons, h2]
      rfl
theorem dropz_can : ∀ (l : List UInt8), Bv.canB (l.dropWhile (· == 0))
  | [] => fun h => by cases h
  | c :: l => by
    rw [List.dropWhile_cons]
    split
    · exact dropz_can l
    · rename_i h
      intro h2
      apply h
      have : c = 0 := by simpa using h2
      rw [this]
      rfl
theorem dropz_val : ∀ (l : List UInt8), Bv.beV (l.dropWhile (· == 0)) = Bv.beV l
  | [] => rfl
  | c :: l => by
    rw [List.dropWhile_cons]
    split
    · rename_i h
      have : c = 0 := by simpa using h
      subst this
      rw [dropz_val l]
      show _ = ((0 : UInt8).toNat : Int) * _ + _
      have h0 : (0 : UInt8).toNat = 0 := rfl
      rw [h0]
      simp
    · rfl
theorem ni_bytes (R : List Nat) (h : ∀ x ∈ R, x < 256) : ni R = By.numsOf (R.map UInt8.ofNat) := by
  unfold ni By.numsOf
  rw [List.map_map]
  apply List.map_congr_left
  intro x hx
  have := u8_back x (h x hx)
  simp only [Function.comp]
  omega
theorem bytes_mag (xs : List Nat) (hx : ∀ x ∈ xs, x < 18446744073709551616) (N n : Nat) (hN : Big.natW (ni xs) = (N : Int)) (hn : n = xs.length) : strOfNums ((bcur xs n (8 * n)).drop (lzN (bcur xs n (8 * n)))) = By.ofL (magOf N) := by
  subst hn
  have hR : ∀ x ∈ ((List.range (8 * xs.length)).map (bA xs)).reverse, x < 256 := fun x h => by
    obtain ⟨m, _, rfl⟩ := List.mem_map.1 (List.mem_reverse.1 h)
    exact bA_lt xs m
  have e : bcur xs xs.length (8 * xs.length) = By.numsOf ((((List.range (8 * xs.length)).map (bA xs)).reverse).map UInt8.ofNat) := by
    rw [← ni_bytes _ hR]
    simp [bcur]
  rw [e, lz_drop, By.strOf_numsOf]
  refine congrArg By.ofL (magOf_of (dropz_can _) ?_)
  rw [dropz_val, ← Bv.beV_le, ← ni_bytes _ hR, ← hN, ← leV_words xs hx]
  simp [ni]

end Go.Proofs.YtnbokeodgendkaaDoor.Ss
