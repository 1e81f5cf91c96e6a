/- Numbers as plain data. -/
import Derived.Test.YtnbokeodgendkaaDoorProg
import Derived.Below
import Derived.Deep.Draws
import Derived.Deep.AppendLies
import Derived.Maps.AppendAt
import Derived.OwnWalk
import Derived.Laws.BytesArg
import Derived.Laws.MakeOwn
import Derived.Laws.OwnMore
import Derived.Deep.OwnRows
import Derived.Tactics
import Derived.Lib.ConvBytes
import Derived.Laws.Slices
import Derived.WalkKit
import Derived.KernelRfl
import Derived.RowKit3
import Derived.Deep.LoopGhost
import Derived.Deep.QuietTactic
import Derived.BigQuiet
import Derived.WideLaws
import Derived.Deep.DeepCutAuto
import Derived.Deep.CutBlock
import Derived.Deep.RegionHeld3
import Derived.Laws.Rows
import Derived.Lib.AppendStr
import Derived.ArgAppend
import Derived.Laws.IdiomCopy
import Derived.OrdersHeld
import Derived.Laws.BitsLemmas
import Derived.RowKit
import Derived.Test.YtnbokeodgendkaaDoorWWords
import Derived.Test.YtnbokeodgendkaaDoorWLast
import Derived.Test.YtnbokeodgendkaaDoorWMore
import Derived.Test.YtnbokeodgendkaaDoorWN
import Derived.Test.YtnbokeodgendkaaDoorWKept
import Derived.Test.YtnbokeodgendkaaDoorWShare
import Derived.Test.YtnbokeodgendkaaDoorWInvWords
import Derived.Test.YtnbokeodgendkaaDoorGe
import Derived.Test.YtnbokeodgendkaaDoorSsA
import Derived.Test.YtnbokeodgendkaaDoorSsB
import Derived.Test.YtnbokeodgendkaaDoorSsC
import Derived.Test.YtnbokeodgendkaaDoorSsE
namespace Go.Proofs.YtnbokeodgendkaaDoor.Ss
open Go Go.RowKit Go.Proofs.YtnbokeodgendkaaDoorW.PrintWords Go.Proofs.YtnbokeodgendkaaDoorW.PrintLast Go.Proofs.YtnbokeodgendkaaDoorW.PrintMore
attribute [local go_sem high] Go.Proofs.YtnbokeodgendkaaDoor.Ge.gtr_str
attribute [local go_sem] max2_int min2_int max_two min_two max_three min_three max_four min_four
set_option linter.unusedVariables false
set_option linter.unusedSimpArgs false

theorem ss_infoB : (Tryd.prog.info? TB).map (fun i => (i.zero, i.size, i.bytes)) = some (some (.int .u8 0), 1, 1) := by kernel_rfl
theorem ws_ni {ws : List Int} (h : ∀ x ∈ ws, 0 ≤ x ∧ x ≤ 18446744073709551615) : ∃ xs : List Nat, ws = ni xs ∧ ∀ x ∈ xs, x < 18446744073709551616 := by
  refine ⟨ws.map Int.toNat, ?_, fun x hx => ?_⟩
  · unfold ni
    rw [List.map_map]
    conv => lhs; rw [← List.map_id ws]
    apply List.map_congr_left
    intro x hx
    have := h x hx
    simp only [Function.comp, id]
    omega
  · obtain ⟨y, hy, rfl⟩ := List.mem_map.1 hx
    have := h y hy
    omega
theorem lzN_le (l : List Int) : lzN l ≤ l.length := by
  unfold lzN
  induction l with
  | nil => simp
  | cons x l ih =>
    rw [List.takeWhile_cons]
    split
    · simpa using ih
    · simp
set_option maxRecDepth 100000 in
set_option maxHeartbeats 2000000 in
theorem ss_Bytes (o : Nat) (A : Option Addr) (c n : Nat) (neg : Bool) (xs : List Nat) (w : World) (ho : IB o neg (.slice A n c) w) (hn : n = xs.length) (hr : Kd.C (Kd.int .u64) w A n (ni xs)) (hc : n ≤ c) (hl : n ≤ 2000000) :
    Calls Tryd.prog 59 #[.pointer (some ⟨o, 0, none⟩)] w fun e w' => ∃ A' c' m, e = .returned (.slice A' m c') ∧ Kd.C (Kd.int .u8) w' A' m ((bcur xs n (8 * n)).drop (lzN (bcur xs n (8 * n)))) ∧ Below w.heap.size w w' := by
  obtain ⟨i0, hi, hz0, hz1, hz2⟩ := info_parts ss_infoB
  have hm := run_make (P := Tryd.prog) w 75 TB i0 (.int .u8 0) Tryd.underlying75 hi hz0 .i64 .i64 ((n : Int) * 8) ((n : Int) * 8) (by omega) (by omega) (by rw [hz2]; omega) (by omega)
  rw [hz1] at hm
  have e8 : ((n : Int) * 8).toNat = 8 * n := by omega
  rw [e8, Nat.mul_one] at hm
  obtain ⟨WB, hWB⟩ : ∃ WB, WB = w.alloc (.cells (madeCells #[Value.int .u8 0] (8 * n)) TB) := ⟨_, rfl⟩
  have hBB : Below w.heap.size w WB := by rw [hWB]; exact (Below.refl _ _).alloc (Nat.le_refl _) _
  have hZ : Bu8 w.heap.size (List.replicate (8 * n) 0) WB := by rw [hWB]; exact Bu8.made (8 * n) w
  have hC := Aside0.mk (ss_bytes A c xs w.heap.size n w WB hn hr hc hl hBB (Nat.le_refl _) hZ)
  have c1 := ho.c1
  have c1' : WB.cell? ⟨o, 1, none⟩ = some (.slice A n c) := (hBB.cell (p := ⟨o, 1, none⟩) (Array.getElem?_eq_some_iff.1 ho).1).trans c1
  have hlen := bcur_length xs n (8 * n) (Nat.le_refl _)
  have hlz := lzN_le (bcur xs n (8 * n))
  rw [hlen] at hlz
  have HL : Aside0 ((bcur xs n (8 * n)).length = 8 * n ∧ n ≤ 2000000) := ⟨hlen, hl⟩
  have hnm : n ≤ 9223372036854775807 := by omega
  have hmm : 8 * n ≤ 9223372036854775807 := by omega
  have hw8 : wrap64 ((n : Int) * 8) = (n : Int) * 8 := by unfold wrap64; omega
  have hm2 : (Instr.makeSlice 75 (.int .i64 ((n : Int) * 8)) (.int .i64 ((n : Int) * 8))).run Tryd.prog w = .ok (.slice (some ⟨w.heap.size, 0, none⟩) (8 * n) (8 * n)) WB := by rw [hWB]; exact hm
  clear hm
  clear ho hn hr hc hBB hZ hWB hi hz0 hz1 hz2 hlen e8 hl
  generalize bcur xs n (8 * n) = cur at hC hlz HL ⊢
  generalize lzN cur = i at hC hlz ⊢
  have hi0 : (0 : Int) ≤ (i : Int) := by omega
  have hi1 : (i : Int) ≤ 8 * (n : Int) := by omega
  by_cases he : i = 8 * n
  · subst he
    go_enter Tryd.func59, Tryd.ntmps59
    go_wp2_with (go_at_call 75; (with_reducible refine (hC.out).mono ?_))
    rintro e W2 ⟨rfl, hZ, hB⟩
    have HZ := Aside0.mk (And.intro hZ hB)
    clear hZ hB
    go_wp2
    go_ret
    have hd : cur.drop (8 * n) = [] := by rw [List.drop_eq_nil_iff]; exact Nat.le_of_eq HL.out.1
    rw [hd]
    exact ⟨_, _, _, rfl, ⟨by simp, by omega, fun h => absurd h (by simp)⟩, HZ.out.2⟩
  · have he2 : ¬ (8 * n = i) := fun h => he h.symm
    go_enter Tryd.func59, Tryd.ntmps59
    go_wp2_with (go_at_call 75; (with_reducible refine (hC.out).mono ?_))
    rintro e W2 ⟨rfl, hZ, hB⟩
    have HZ := Aside0.mk (And.intro hZ hB)
    clear hZ hB
    go_wp2
    go_ret
    have h1 := HZ.out.1.C (by rw [HL.out.1]; unfold maxLen; have := HL.out.2; omega) i (by rw [HL.out.1]; omega)
    rw [List.length_drop, HL.out.1] at h1
    exact ⟨_, _, _, rfl, by simpa using h1, HZ.out.2⟩
def sgnZ (z : Int) : Int := if z < 0 then -1 else if z = 0 then 0 else 1
theorem natW_pos {xs : List Nat} (h : Big.okW (ni xs)) : xs = [] ∨ 0 < Big.natW (ni xs) := by
  cases xs with
  | nil => exact .inl rfl
  | cons x l => exact .inr (Bn.natW_len [] (ni (x :: l)) ⟨fun x h => absurd h (by simp), by simp⟩ h (by simp [ni]))
theorem natW_short {ws : List Int} (h : Big.okW ws) (k : Nat) (hk : Big.natW ws ≤ 18446744073709551616 ^ k) : ws.length ≤ k + 1 := by
  refine Decidable.byContradiction fun hc => ?_
  have hb : Big.okW (List.replicate k 0 ++ [1]) := by
    refine ⟨fun x hx => ?_, by simp⟩
    rcases List.mem_append.1 hx with h | h
    · rw [List.eq_of_mem_replicate h]
      omega
    · rw [List.mem_singleton.1 h]
      omega
  have h1 := Bn.natW_len _ ws hb h (by simp; omega)
  have h2 : Big.natW (List.replicate k 0 ++ [1]) = 18446744073709551616 ^ k := by
    rw [Bn.natW_append]
    have : ∀ n, Big.natW (List.replicate n 0) = 0 := by
      intro n
      induction n with
      | zero => rfl
      | succ n ih => rw [List.replicate_succ, Big.natW, ih]; rfl
    rw [this, List.length_replicate]
    simp [Big.natW]
  omega
theorem tp_W (n : Nat) : ((tp n : Nat) : Int) ≤ 18446744073709551616 ^ n := by
  have h : tp n ≤ 18446744073709551616 ^ n := Nat.pow_le_pow_left (by omega) n
  have h2 : (((18446744073709551616 ^ n : Nat)) : Int) = (18446744073709551616 : Int) ^ n := Int.natCast_pow _ _
  omega
theorem cvt_small {s : ByteArray} {z : Int} (h : cvt s = some z) : z.natAbs ≤ tp s.size := by
  unfold cvt at h
  split at h
  · rename_i hc
    have hb := Bv.decV_bounds _ hc.2
    have hle : ((By.bl s).drop (sgN s)).length ≤ s.size := by rw [List.length_drop, By.bl_length]; omega
    have h1 := tp_le hle
    have h2 : ((tp ((By.bl s).drop (sgN s)).length : Nat) : Int) = (10 : Int) ^ ((By.bl s).drop (sgN s)).length := Int.natCast_pow _ _
    have h3 := Option.some.inj h
    split at h3 <;> omega
  · cases h
/-- A number as plain data. -/
def plainS (z : Int) : ByteArray := By.ofL (magOf z.natAbs)
set_option maxRecDepth 100000 in
set_option maxHeartbeats 2000000 in
theorem ss_plain_bytes (v : Value) (z : Int) (w : World) (n : Nat) (hn : n ≤ 1000000) (hz : z.natAbs ≤ tp n) (h : Big.At w z v) : Calls Tryd.prog 59 #[v] w fun e w' => ∃ A' c' m L, e = .returned (.slice A' m c') ∧ Kd.C (Kd.int .u8) w' A' m L ∧ strOfNums L = plainS z ∧ Below w.heap.size w w' := by
  obtain ⟨o, A, c, neg, ws, rfl, ho, hr, hc, hok, hng, rfl⟩ := h
  obtain ⟨xs, rfl, hxx⟩ := ws_ni hok.1
  have hnn := Bn.natW_nonneg _ hok.1
  have hN : Big.natW (ni xs) = (((Big.valW neg (ni xs)).natAbs : Nat) : Int) := by
    unfold Big.valW
    split <;> omega
  have hlen := natW_short hok n (by have := tp_W n; omega)
  rw [ni_length] at hlen
  rw [ni_length] at hr hc ho
  refine (ss_Bytes o A c xs.length neg xs w ho rfl hr hc (by omega)).mono ?_
  rintro e w' ⟨A', c', m, rfl, hC, hB⟩
  exact ⟨A', c', m, _, rfl, hC, bytes_mag xs hxx _ _ hN rfl, hB⟩
set_option maxHeartbeats 1000000 in
theorem ss_Sign (v : Value) (z : Int) (w : World) (h : Big.At w z v) : Calls Tryd.prog 58 #[v] w fun e w' => e = .returned (.int .i64 (sgnZ z)) ∧ w = w' := by
  obtain ⟨o, A, c, neg, ws, rfl, ho, hr, hc, hok, hng, rfl⟩ := h
  obtain ⟨xs, rfl, hxx⟩ := ws_ni hok.1
  have hI : IB o neg (.slice A (ni xs).length c) w := ho
  have c0 := hI.c0
  have c1 := hI.c1
  have hz := natW_pos hok
  obtain ⟨n, hn⟩ : ∃ n, n = (ni xs).length := ⟨_, rfl⟩
  rw [← hn] at c1
  rw [ni_length] at hn
  clear ho hr hc hI
  have hm := hok.1
  clear hm
  by_cases h0 : n = 0
  · subst h0
    have hx : xs = [] := List.eq_nil_of_length_eq_zero hn.symm
    subst hx
    have hneg : neg = false := by
      cases neg
      · rfl
      · exact absurd rfl (hng rfl)
    subst hneg
    clear hng hz hxx hok hn
    go_enter Tryd.func58, Tryd.ntmps58
    go_wp2
    go_ret
    exact ⟨rfl, rfl⟩
  · have hb : ((n : Int) == 0) = false := beq_eq_false_iff_ne.2 (by omega)
    have hb2 : (n == 0) = false := beq_eq_false_iff_ne.2 h0
    have hp : 0 < Big.natW (ni xs) := by
      rcases hz with h | h
      · subst h
        exact absurd hn h0
      · exact h
    have HS : Aside0 (sgnZ (Big.valW neg (ni xs)) = if neg then -1 else 1) := ⟨by
      unfold sgnZ Big.valW
      cases neg
      · rw [if_neg (by simp; omega), if_neg (by simp; omega)]
        rfl
      · rw [if_pos (by simp; omega)]
        rfl⟩
    rw [HS.out]
    clear hz hp hng hok hxx hn h0 HS
    cases neg
    · go_enter Tryd.func58, Tryd.ntmps58
      go_wp2
      go_ret
      exact ⟨rfl, rfl⟩
    · go_enter Tryd.func58, Tryd.ntmps58
      go_wp2
      go_ret
      exact ⟨rfl, rfl⟩
set_option maxRecDepth 100000 in
set_option maxHeartbeats 2000000 in
theorem ss_plain (v : Value) (z : Int) (w : World) (n : Nat) (hn : n ≤ 1000000) (hz : z.natAbs ≤ tp n) (h : Big.At w z v) : Calls Tryd.prog 40 #[v] w fun e w' => e = .returned (.agg #[.bool (decide (z < 0)), .string (plainS z)]) ∧ Below w.heap.size w w' := by
  obtain ⟨WA, hWA⟩ : ∃ WA : World, WA = w.alloc (.cells #[.bool false, .string ⟨#[]⟩] 44) := ⟨_, rfl⟩
  have hBA : Below w.heap.size w WA := by rw [hWA]; exact (Below.refl _ _).alloc (Nat.le_refl _) _
  have hA := h.below hBA
  obtain ⟨o, hv⟩ : ∃ o, v = .pointer (some o) := by obtain ⟨o, A, c, neg, ws, h, _⟩ := h; exact ⟨_, h⟩
  have hS := Aside0.mk (ss_Sign v z WA hA)
  have hP := Aside0.mk (ss_plain_bytes v z WA n hn hz hA)
  obtain ⟨sg, hsg⟩ : ∃ sg, sg = sgnZ z := ⟨_, rfl⟩
  have hd : decide (sg < 0) = decide (z < 0) := by
    rw [hsg]
    unfold sgnZ
    by_cases h1 : z < 0
    · rw [if_pos h1, decide_eq_true h1]
      rfl
    · rw [if_neg h1, decide_eq_false h1]
      split <;> rfl
  rw [← hsg] at hS
  have hblk : Aside0 (∀ W, Below WA.heap.size WA W → W.heap[w.heap.size]? = some (.cells #[.bool false, .string ⟨#[]⟩] 44 (0, 0))) := ⟨fun W hb => by
    have hk : WA.heap[w.heap.size]? = some (.cells #[.bool false, .string ⟨#[]⟩] 44 (0, 0)) := by rw [hWA]; exact blk_new w _
    exact (hb.block w.heap.size (Array.getElem?_eq_some_iff.1 hk).1).trans hk⟩
  have HB := Aside0.mk hBA
  have HD := Aside0.mk hd
  subst hv
  clear hA hsg hz hn h hBA hd
  rw [hWA] at hS hP hblk HB
  clear hWA
  go_enter Tryd.func40, Tryd.ntmps40
  go_wp2_with (go_at_call 58; (with_reducible refine (hS.out).mono ?_); rintro e w' ⟨rfl, rfl⟩)
  go_wp2_with (go_at_call 59; (with_reducible refine (hP.out).mono ?_))
  rintro e W2 ⟨A', c', m, L, rfl, hC, hL, hB⟩
  have hcv := Kd.C_string (P := Tryd.prog) (A := A') (c := c') Tryd.underlying75 Tryd.underlying5 Tryd.underlying9 hC
  rw [hL] at hcv
  have hk := hblk.out W2 hB
  have hk3 := blk_put hk 0 (.bool (decide (sg < 0))) (cs' := #[.bool (decide (sg < 0)), .string ⟨#[]⟩]) rfl
  have hk4 := blk_put hk3 1 (.string (plainS z)) (cs' := #[.bool (decide (sg < 0)), .string (plainS z)]) rfl
  have HB2 : Aside0 (Below w.heap.size w ((W2.setCell ⟨w.heap.size, 0, none⟩ (.bool (decide (sg < 0)))).setCell ⟨w.heap.size, 1, none⟩ (.string (plainS z)))) := ⟨((HB.out.trans (hB.mono (by simp))).setCell (p := ⟨w.heap.size, 0, none⟩) (Nat.le_refl _) _).setCell (p := ⟨w.heap.size, 1, none⟩) (Nat.le_refl _) _⟩
  obtain ⟨w3, hw3⟩ : ∃ w3, W2.setCell ⟨w.heap.size, 0, none⟩ (.bool (decide (sg < 0))) = w3 := ⟨_, rfl⟩
  rw [hw3] at hk3 hk4 HB2
  obtain ⟨w4, hw4⟩ : ∃ w4, w3.setCell ⟨w.heap.size, 1, none⟩ (.string (plainS z)) = w4 := ⟨_, rfl⟩
  rw [hw4] at hk4 HB2
  have q0 := (blk_cell hk 0).trans rfl
  have f0 := blk_frozen hk 0
  have q1 := (blk_cell hk3 1).trans rfl
  have f1 := blk_frozen hk3 1
  have p0 := (blk_cell hk4 0).trans rfl
  have p1 := (blk_cell hk4 1).trans rfl
  clear hC hL hB hk hk3 hk4
  go_wp2
  exact bodyPost_ret (v := .agg #[.bool (decide (sg < 0)), .string (plainS z)]) (by simp [results, Tryd.results40, go_sem, p0, p1]) rfl ⟨by rw [HD.out], HB2.out⟩

end Go.Proofs.YtnbokeodgendkaaDoor.Ss
