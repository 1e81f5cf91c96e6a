-- Written by a program of this session (myprint.py).
import Derived.Test.YtgnkjjgbdlkidaaGreatDoorZ0
import Derived.Test.YtgnkjjgbdlkidaaGreatDoorZ3
import Derived.Test.YtgnkjjgbdlkidaaGreatDoorZ8
import Derived.Test.YtgnkjjgbdlkidaaGreatDoorSsC
import Derived.Test.YtgnkjjgbdlkidaaGreatDoorShelf
import Derived.Lib.OthersKept
import Derived.Laws.Runes
import Derived.Laws.RangeAny
import Derived.Laws.RangeString
import Derived.Deep.RegionHeld3
import Derived.Test.YtgnkjjgbdlkidaaGreatDoorBg
import Derived.BigQuiet
import Derived.Deep.QuietTactic
import Derived.Test.YtgnkjjgbdlkidaaGreatDoorGe
namespace Go.Proofs.YtgnkjjgbdlkidaaGreatDoor.Z
open Go.Proofs.YtgnkjjgbdlkidaaGreatDoor.Gw
open Go.RowKit Go.Proofs.YtgnkjjgbdlkidaaGreatDoorW.PrintWords Go.Proofs.YtgnkjjgbdlkidaaGreatDoorW.PrintLast Go.Proofs.YtgnkjjgbdlkidaaGreatDoorW.PrintMore
attribute [local go_sem high] Go.Proofs.YtgnkjjgbdlkidaaGreatDoor.Ge.gtr_str
attribute [local go_sem] max2_int min2_int max_two min_two max_three min_three max_four min_four   -- for this text's walks alone
set_option linter.unusedVariables false
set_option linter.unusedSimpArgs false

-- PLUGGED impl_SemverCompareText: function 7 (a text of this session)
open Go.Proofs.YtgnkjjgbdlkidaaGreatDoor
/-- A like-SemVer text's numbers and the rest, behind a leading 'v': `cur` is what stands of a number. -/
def lkGo : List UInt8 → List UInt8 → List Int × List UInt8
  | cur, [] => (if cur = [] then [] else [Bv.decV cur], [])
  | cur, c :: l => if By.dg c then lkGo (cur ++ [c]) l else
      if c = 46 then ((if cur = [] then [] else [Bv.decV cur]) ++ (lkGo [] l).1, (lkGo [] l).2) else (if cur = [] then [] else [Bv.decV cur], c :: l)
def lkV (s : ByteArray) : Bool := Lib.hasPrefix s.data.toList [118]
def lkL (s : ByteArray) : ByteArray := ⟨(Lib.trimPrefix s.data.toList [118]).toArray⟩
def lkP (s : ByteArray) : List Int × List UInt8 := lkGo [] (By.bl (lkL s))
theorem lk_cvt (l : List UInt8) (h : l.all By.dg = true) (h0 : l ≠ []) : Ss.cvt (By.ofL l) = some (Bv.decV l) := by
  cases l with
  | nil => exact absurd rfl h0
  | cons c l =>
    have hc : By.dg c = true := by simp [List.all_cons] at h; exact h.1
    have h1 : c ≠ 45 := by rintro rfl; simp [By.dg] at hc
    have h2 : c ≠ 43 := by rintro rfl; simp [By.dg] at hc
    have hs : Ss.sgN (By.ofL (c :: l)) = 0 ∧ Ss.sgB (By.ofL (c :: l)) = false := by
      constructor
      · simp [Ss.sgN, By.bl_ofL, h1, h2]
        exact fun _ => ⟨h1, h2⟩
      · simp [Ss.sgB, By.bl_ofL, h1, h2]
        exact fun _ => h1
    unfold Ss.cvt
    rw [hs.1, hs.2, By.bl_ofL, List.drop_zero, if_pos ⟨h0, h⟩]
    rfl
theorem lk_enc (c : UInt8) (h : c.toNat < 128) : Utf8.encode (c.toNat : Int) = By.ofL [c] := by
  have hv : Utf8.valid (c.toNat : Int) = true := by simp [Utf8.valid]; omega
  unfold Utf8.encode
  simp only [hv, if_true, Int.toNat_natCast, h, if_pos]
  simp [By.ofL]
theorem lk_app (l m : List UInt8) : By.ofL l ++ By.ofL m = By.ofL (l ++ m) := by
  rw [ByteArray.ext_iff]
  simp [By.ofL]
/-- What holds of the walk at `t` bytes. -/
def LkR (L : List UInt8) (zs : List Int) (cur : List UInt8) (fb : Bool) (t : Nat) : Prop :=
  cur.length ≤ t ∧ zs.length ≤ t ∧ (if fb then lkGo [] L = (zs, cur ++ L.drop t) else cur.all By.dg = true ∧ lkGo [] L = (zs ++ (lkGo cur (L.drop t)).1, (lkGo cur (L.drop t)).2))
theorem LkR.more {L : List UInt8} {zs : List Int} {cur : List UInt8} {t : Nat} (h : LkR L zs cur true t) (ht : t < L.length) : LkR L zs (cur ++ [L[t]]) true (t + 1) := by
  obtain ⟨h1, h2, h3⟩ := h
  refine ⟨by simp; omega, by omega, ?_⟩
  rw [if_pos rfl] at h3 ⊢
  rw [h3, List.drop_eq_getElem_cons ht]
  simp
theorem LkR.dig {L : List UInt8} {zs : List Int} {cur : List UInt8} {t : Nat} (h : LkR L zs cur false t) (ht : t < L.length) (hd : By.dg L[t] = true) : LkR L zs (cur ++ [L[t]]) false (t + 1) := by
  obtain ⟨h1, h2, h3⟩ := h
  refine ⟨by simp; omega, by omega, ?_⟩
  rw [if_neg (by decide)] at h3 ⊢
  obtain ⟨h4, h5⟩ := h3
  rw [List.drop_eq_getElem_cons ht, lkGo, if_pos hd] at h5
  exact ⟨by simp [List.all_append, h4, hd], h5⟩
theorem LkR.dot {L : List UInt8} {zs : List Int} {cur : List UInt8} {t : Nat} (h : LkR L zs cur false t) (ht : t < L.length) (hd : L[t] = 46) : LkR L (zs ++ if cur = [] then [] else [Bv.decV cur]) [] false (t + 1) := by
  obtain ⟨h1, h2, h3⟩ := h
  refine ⟨by simp, ?_, ?_⟩
  · split <;> simp <;> omega
  rw [if_neg (by decide)] at h3 ⊢
  obtain ⟨h4, h5⟩ := h3
  rw [List.drop_eq_getElem_cons ht, lkGo, if_neg (by rw [hd]; decide), if_pos hd] at h5
  exact ⟨by simp, by rw [h5]; simp⟩
theorem LkR.build {L : List UInt8} {zs : List Int} {cur : List UInt8} {t : Nat} (h : LkR L zs cur false t) (ht : t < L.length) (hd : By.dg L[t] = false) (hp : L[t] ≠ 46) : LkR L (zs ++ if cur = [] then [] else [Bv.decV cur]) [L[t]] true (t + 1) := by
  obtain ⟨h1, h2, h3⟩ := h
  refine ⟨by simp, ?_, ?_⟩
  · split <;> simp <;> omega
  rw [if_neg (by decide)] at h3
  rw [if_pos rfl]
  obtain ⟨h4, h5⟩ := h3
  rw [List.drop_eq_getElem_cons ht, lkGo, if_neg (by rw [hd]; decide), if_neg hp] at h5
  rw [h5]
  simp
def LkP (s : ByteArray) (w : World) (e : Ending) (w' : World) : Prop := Below w.heap.size w w' ∧
  ∃ A c, e = .returned (.agg #[.bool (lkV s), .slice A (lkP s).1.length c, .string (By.ofL (lkP s).2), .string s]) ∧ (Kd.C Big.kd w' A (lkP s).1.length (lkP s).1 ∧ Kd.R Big.kd 50 w' w.heap.size (fun _ => True) (.slice A (lkP s).1.length c) (lkP s).1) ∧ (lkP s).1.length ≤ c
theorem lkL_bl (s : ByteArray) : By.bl (lkL s) = Lib.trimPrefix s.data.toList [118] := by
  unfold lkL
  exact By.bl_ofL _
theorem lkL_drop (s : ByteArray) : ∃ k, By.bl (lkL s) = (By.bl s).drop k := by
  rw [lkL_bl]
  unfold Lib.trimPrefix
  split
  · exact ⟨_, rfl⟩
  · exact ⟨0, by rw [List.drop_zero]; rfl⟩
theorem lkL_size (s : ByteArray) : (lkL s).size ≤ s.size := by
  obtain ⟨k, h⟩ := lkL_drop s
  rw [← By.bl_length, ← By.bl_length, h, List.length_drop]
  omega
theorem lkL_mem (s : ByteArray) (t : Nat) (h : t < (lkL s).size) : (lkL s)[t] ∈ By.bl s := by
  obtain ⟨k, hk⟩ := lkL_drop s
  have h1 : t < (By.bl (lkL s)).length := by rw [By.bl_length]; exact h
  have h3 : (By.bl (lkL s))[t] ∈ By.bl (lkL s) := List.getElem_mem h1
  have h4 : (By.bl (lkL s))[t] ∈ By.bl s := List.mem_of_mem_drop (i := k) (by rw [← hk]; exact h3)
  exact h4
theorem lk_infoP : (Tryz.prog.info? 50).map (fun i => (i.zero, i.size, i.bytes)) = some (some (.pointer none), 1, 8) := by kernel_rfl
def lkD (c : Int) : Bool := decide (48 ≤ c ∧ c ≤ 57)
theorem lkD_b (c : UInt8) : lkD (c.toNat : Int) = By.dg c := by
  unfold lkD By.dg
  rw [decide_eq_decide]
  omega
set_option maxHeartbeats 1000000 in
theorem lk_isDig (c : Int) (w : World) : Calls Tryz.prog 18 #[.int .i32 c] w fun e w' => e = .returned (.bool (lkD c)) ∧ w' = w := by
  unfold lkD
  by_cases h : 48 ≤ c
  · have h1 : decide ((48 : Int) ≤ c) = true := decide_eq_true (by omega)
    have h2 : decide (c ≤ 57) = decide (48 ≤ c ∧ c ≤ 57) := by
      rw [decide_eq_decide]
      omega
    generalize decide (48 ≤ c ∧ c ≤ 57) = b at h2
    go_enter Tryz.func18, Tryz.ntmps18
    go_wp2
    go_ret
    exact ⟨by first | rfl | (rw [← h2]; rfl) | (simp [h2]), rfl⟩
  · have h1 : decide ((48 : Int) ≤ c) = false := decide_eq_false (by omega)
    have h2 : decide (48 ≤ c ∧ c ≤ 57) = false := decide_eq_false (by omega)
    rw [h2]
    go_enter Tryz.func18, Tryz.ntmps18
    go_wp2
    go_ret
    exact ⟨rfl, rfl⟩
def LkC (g : Nat) (w : World) : Prop := ∃ v0 v1 v2 v3, w.heap[g]? = some (.cells #[v0, v1, v2, v3] 35 (0, 0))
def lkW (W : World) (g : Nat) (x : Bool) (A : Option Addr) (n cc : Nat) (y z : ByteArray) : World :=
  (((W.setCell ⟨g, 0, none⟩ (.bool x)).setCell ⟨g, 1, none⟩ (.slice A n cc)).setCell ⟨g, 2, none⟩ (.string y)).setCell ⟨g, 3, none⟩ (.string z)
theorem lk_end {w W : World} {g base : Nat} {v0 v1 v2 v3 : Value} {A : Option Addr} {cc : Nat} {zs : List Int} (x : Bool) (y z : ByteArray) (hC : W.heap[g]? = some (.cells #[v0, v1, v2, v3] 35 (0, 0)))
    (HO : Kd.R Big.kd 50 W base (fun _ => True) (.slice A zs.length cc) zs) (hb : g < base) (HB : Below g w W) :
    (lkW W g x A zs.length cc y z).heap[g]? = some (.cells #[.bool x, .slice A zs.length cc, .string y, .string z] 35 (0, 0)) ∧ Below g w (lkW W g x A zs.length cc y z) ∧ (Kd.C Big.kd (lkW W g x A zs.length cc y z) A zs.length zs ∧ Kd.R Big.kd 50 (lkW W g x A zs.length cc y z) g (fun _ => True) (.slice A zs.length cc) zs) ∧ zs.length ≤ cc := by
  have h1 := Kd.R_far (p := ⟨g, 0, none⟩) (Kd.R_bound HO) (fun k hk e => by have h1 := hk.2.1; have e2 : k = g := e; omega) (.bool x)
  have h2 := Kd.R_far (p := ⟨g, 1, none⟩) h1 (fun k hk e => by have h1 := hk.2.1; have e2 : k = g := e; omega) (.slice A zs.length cc)
  have h3 := Kd.R_far (p := ⟨g, 2, none⟩) h2 (fun k hk e => by have h1 := hk.2.1; have e2 : k = g := e; omega) (.string y)
  have h4 := Kd.R_far (p := ⟨g, 3, none⟩) h3 (fun k hk e => by have h1 := hk.2.1; have e2 : k = g := e; omega) (.string z)
  obtain ⟨A', c', e, hc, hr⟩ := Kd.R_reads h4
  obtain ⟨rfl, -, rfl⟩ : A = A' ∧ zs.length = zs.length ∧ cc = c' := by
    simp only [Value.slice.injEq] at e
    exact ⟨e.1, rfl, e.2.2⟩
  refine ⟨?_, ?_, ⟨by first | exact hr | exact hc, Kd.R_lower (Kd.R_mono h4 (fun _ _ => trivial)) (Nat.le_of_lt hb)⟩, by first | exact hc | exact hr⟩
  · have b1 := blk_put hC 0 (.bool x) rfl
    have b2 := blk_put b1 1 (.slice A zs.length cc) rfl
    have b3 := blk_put b2 2 (.string y) rfl
    exact blk_put b3 3 (.string z) rfl
  · exact ((((HB.setCell (p := ⟨g, 0, none⟩) (Nat.le_refl _) _).setCell (p := ⟨g, 1, none⟩) (Nat.le_refl _) _).setCell (p := ⟨g, 2, none⟩) (Nat.le_refl _) _).setCell (p := ⟨g, 3, none⟩) (Nat.le_refl _) _)
theorem LkR.done {L : List UInt8} {zs : List Int} {cur : List UInt8} {t : Nat} (h : LkR L zs cur true t) (ht : L.length ≤ t) : lkGo [] L = (zs, cur) := by
  have := h.2.2
  rw [if_pos rfl, List.drop_of_length_le ht, List.append_nil] at this
  exact this
theorem LkR.done2 {L : List UInt8} {zs : List Int} {cur : List UInt8} {t : Nat} (h : LkR L zs cur false t) (ht : L.length ≤ t) : lkGo [] L = (zs ++ if cur = [] then [] else [Bv.decV cur], []) := by
  have := h.2.2
  rw [if_neg (by decide), List.drop_of_length_le ht, lkGo] at this
  exact this.2
set_option maxRecDepth 100000 in
set_option maxHeartbeats 4000000 in
theorem like_parse (s : ByteArray) (w : World) (hs : s.size ≤ 300000) (hlow : ∀ c ∈ By.bl s, c.toNat < 128) (hG : GW w) : Calls Tryz.prog 12 #[.string s] w (LkP s w) := by
  obtain ⟨a, a2, hE, hN⟩ : ∃ a a2, ErrAt gEOF a w ∧ ErrAt gND a2 w := by
    first
    | (obtain ⟨a, a2, a3, h1, h2, h3⟩ := hG; exact ⟨a, a2, h1, h2⟩)
    | (obtain ⟨a, a2, h1, h2⟩ := hG; exact ⟨a, a2, h1, h2⟩)
  clear hG
  obtain ⟨n, hn⟩ : ∃ n, n = (lkL s).size := ⟨_, rfl⟩
  have hnl : n ≤ 300000 := by rw [hn]; exact Nat.le_trans (lkL_size s) hs
  have HLOW : Aside0 (∀ t (h : t < (lkL s).size), ((lkL s)[t]).toNat < 128) := ⟨fun t h => hlow _ (lkL_mem s t h)⟩
  have HP1 : Aside0 (∀ W, Calls Tryz.prog 16 #[.string s, .string ⟨#[118]⟩] W fun e w' => e = .returned (.bool (lkV s)) ∧ W = w') := ⟨fun W => (Tryz.strings_HasPrefix s _ W).mono fun e w' ⟨h1, h2⟩ => ⟨h1, h2.symm⟩⟩
  have HP2 : Aside0 (∀ W, Calls Tryz.prog 17 #[.string s, .string ⟨#[118]⟩] W fun e w' => e = .returned (.string (lkL s)) ∧ W = w') := ⟨fun W => (Tryz.strings_TrimPrefix s _ W).mono fun e w' ⟨h1, h2⟩ => ⟨h1, h2.symm⟩⟩
  have HG : Aside0 (ErrAt gEOF a w ∧ ErrAt gND a2 w) := ⟨hE, hN⟩
  have HRES : Aside0 (lkP s = lkGo [] (By.bl (lkL s))) := ⟨rfl⟩
  have HNN := Aside0.mk hn
  clear hE hN hs hlow
  unfold LkP
  generalize lkP s = res at HRES ⊢
  generalize lkV s = vv at HP1 ⊢
  generalize lkL s = L at HP2 HLOW HRES hn HNN
  clear hn
  go_enter Tryz.func12, Tryz.ntmps12
  go_wp2_with (go_at_call 16; (with_reducible refine (HP1.out _).mono ?_); rintro e W1 ⟨rfl, rfl⟩)
  go_wp2_with (go_at_call 17; (with_reducible refine (HP2.out _).mono ?_); rintro e W2 ⟨rfl, rfl⟩)
  go_wp2
  go_loopw [3, 5, 6] (fun v3 v5 v6 wr => ∃ (t : Nat) (zs : List Int) (cur : List UInt8) (fb : Bool), v5 = .string (By.ofL cur) ∧ v6 = .bool fb ∧ Aside0 (Kd.R Big.kd 50 wr (w.heap.size + 2) (fun _ => True) v3 zs) ∧ Aside0 (Below w.heap.size w wr) ∧ Aside0 (wr.heap[w.heap.size + 1]? = some (.stringIter L t)) ∧ Aside0 (LkC w.heap.size wr) ∧ Aside0 (LkR (By.bl L) zs cur fb t) ∧ t ≤ n) (fun v3 v5 v6 wr => n - wr.iterPos (w.heap.size + 1))
  case atStart => exact ⟨0, [], [], false, rfl, rfl, ⟨Kd.R_nil _ _ _ _ _⟩, ⟨((Below.refl _ _).alloc (Nat.le_refl _) _).alloc (by simp) _⟩, ⟨by
      have := World.iter_heap (w.alloc (.cells #[Value.bool false, Value.slice none 0 0, Value.string ⟨#[]⟩, Value.string ⟨#[]⟩] 35)) L 0
      simpa using this⟩, ⟨_, _, _, _, (((Below.refl (w.alloc (.cells #[Value.bool false, Value.slice none 0 0, Value.string ⟨#[]⟩, Value.string ⟨#[]⟩] 35)).heap.size _).alloc (Nat.le_refl _) _).block w.heap.size (by simp)).trans (blk_new w _)⟩, ⟨by simp, by simp, by rw [if_neg (by decide)]; exact ⟨by simp, by simp⟩⟩, Nat.zero_le _⟩
  case round =>
    obtain ⟨t, zs, cur, fb, rfl, rfl, HO, HB, HI, HC, HR, ht⟩ := hrel
    have HM : Aside0 (wr.iterPos (w.heap.size + 1) = t) := ⟨by simp only [World.iterPos]; rw [HI.out]⟩
    have hcl : cur.length ≤ 300000 := by have := HR.out.1; omega
    by_cases hlt : t < L.size
    · obtain ⟨c, hcq⟩ : ∃ c, c = L[t] := ⟨_, rfl⟩
      have hc : c.toNat < 128 := by rw [hcq]; exact HLOW.out t hlt
      obtain ⟨w2, hw2⟩ : ∃ w2, wr.iterAt (w.heap.size + 1) L (t + 1) = w2 := ⟨_, rfl⟩
      have hnx : ∀ ty, (Instr.next (.pointer (some ⟨w.heap.size + 1, 0, none⟩)) true ty).run Tryz.prog wr = .ok (.tuple #[.bool true, .int .i64 (t : Int), .int .i32 (c.toNat : Int)]) w2 := fun ty => by
        rw [← hw2, hcq]
        exact Lib.run_next_ascii_at wr (w.heap.size + 1) L t ty HI.out hlt (HLOW.out t hlt)
      have HI2 : Aside0 (w2.heap[w.heap.size + 1]? = some (.stringIter L (t + 1))) := ⟨by rw [← hw2]; exact Lib.iterAt_heap wr _ L t _ HI.out⟩
      have HB2 : Aside0 (Below w.heap.size w w2) := ⟨by rw [← hw2]; exact Lib.below_iterAt HB.out (Nat.le_succ _) _ _⟩
      have HC2 : Aside0 (LkC w.heap.size w2) := ⟨by
        obtain ⟨v0, v1, v2, v3, h⟩ := HC.out
        exact ⟨v0, v1, v2, v3, by rw [← hw2, Lib.iterAt_other _ _ _ _ _ (by omega)]; exact h⟩⟩
      have HO2 : Aside0 (Kd.R Big.kd 50 w2 (w.heap.size + 2) (fun _ => True) u3 zs) := ⟨Kd.R_mono (Kd.R_step (Kd.R_bound HO.out) (fun k hk hl => by rw [← hw2]; exact Lib.iterAt_other _ _ _ _ _ (by have := hk.2.1; omega))) (fun _ _ => trivial)⟩
      have HL : Aside0 (t < n) := ⟨by rw [HNN.out]; exact hlt⟩
      have htl : t < (By.bl L).length := by rw [By.bl_length]; exact hlt
      have hbc : (By.bl L)[t] = c := by rw [hcq]; rfl
      have henc := lk_enc c hc
      have hadd : By.ofL cur ++ By.ofL [c] = By.ofL (cur ++ [c]) := lk_app _ _
      have hz1 : (By.ofL cur).size ≤ 300000 := by rw [By.ofL_size]; exact hcl
      have hz2 : (By.ofL [c]).size = 1 := rfl
      have HM2 : Aside0 (w2.iterPos (w.heap.size + 1) = t + 1) := ⟨by simp only [World.iterPos]; rw [HI2.out]⟩
      cases fb with
      | true =>
        have HR2 : Aside0 (LkR (By.bl L) zs (cur ++ [c]) true (t + 1)) := ⟨by rw [← hbc]; exact HR.out.more htl⟩
        clear HO HB HI HC HR hcq hw2 htl hbc hlt hc
        go_wp2
        go_roundw
        case rel => exact ⟨t + 1, zs, cur ++ [c], true, by rw [← hadd, ← henc], rfl, HO2, HB2, HI2, HC2, HR2, HL.out⟩
        case measure =>
          have := HL.out
          rw [HM.out, HM2.out]
          omega
      | false =>
        have HFC : Aside0 (∀ W, Calls Tryz.prog 18 #[.int .i32 (c.toNat : Int)] W fun e w' => e = .returned (.bool (By.dg c)) ∧ W = w') := ⟨fun W => (lk_isDig (c.toNat : Int) W).mono fun e w' ⟨h1, h2⟩ => ⟨by rw [h1, lkD_b], h2.symm⟩⟩
        cases hd : By.dg c with
        | true =>
          have HR2 : Aside0 (LkR (By.bl L) zs (cur ++ [c]) false (t + 1)) := ⟨by rw [← hbc]; exact HR.out.dig htl (by rw [hbc]; exact hd)⟩
          rw [hd] at HFC
          clear HO HB HI HC HR hcq hw2 htl hbc hlt hc hd
          go_wp2_with (go_at_call 18; (with_reducible refine (HFC.out _).mono ?_); rintro e w' ⟨rfl, rfl⟩)
          go_roundw
          case rel => exact ⟨t + 1, zs, cur ++ [c], false, by first | rw [← hadd, ← henc] | rfl, rfl, HO2, HB2, HI2, HC2, HR2, HL.out⟩
          case measure =>
            have := HL.out
            rw [HM.out, HM2.out]
            omega
        | false =>
          rw [hd] at HFC
          have hG1 := Aside0.mk (And.intro HG.out.1 HG.out.2)
          have hdd : By.dg (By.bl L)[t] = false := by rw [hbc]; exact hd
          have HDOT : Aside0 (c = 46 → LkR (By.bl L) (zs ++ if cur = [] then [] else [Bv.decV cur]) [] false (t + 1)) := ⟨fun h => HR.out.dot htl (by rw [hbc]; exact h)⟩
          have HBLD : Aside0 (c ≠ 46 → LkR (By.bl L) (zs ++ if cur = [] then [] else [Bv.decV cur]) [c] true (t + 1)) := ⟨fun h => by have := HR.out.build htl hdd (by rw [hbc]; exact h); rw [hbc] at this; exact this⟩
          have HALL : Aside0 (cur.all By.dg = true ∧ zs.length ≤ t) := ⟨by have := HR.out.2.2; rw [if_neg (by decide)] at this; exact this.1, HR.out.2.1⟩
          have h46 : ((c.toNat : Int) == 46) = decide (c = 46) := by
            rw [Bool.eq_iff_iff, beq_iff_eq, decide_eq_true_eq, ← UInt8.toNat_inj]
            show (c.toNat : Int) = 46 ↔ c.toNat = 46
            omega
          cases cur with
          | nil =>
            have HDOT2 : Aside0 (c = 46 → LkR (By.bl L) zs [] false (t + 1)) := ⟨fun h => by have := HDOT.out h; rw [if_pos rfl, List.append_nil] at this; exact this⟩
            have HBLD2 : Aside0 (c ≠ 46 → LkR (By.bl L) zs [c] true (t + 1)) := ⟨fun h => by have := HBLD.out h; rw [if_pos rfl, List.append_nil] at this; exact this⟩
            have e0 : By.ofL [] = ⟨#[]⟩ := rfl
            rw [e0]
            clear HO HB HI HC HR hcq hw2 htl hbc hlt hc hd hdd HDOT HBLD hadd hz1
            by_cases hp : c = 46
            · have hq : ((c.toNat : Int) == 46) = true := by rw [h46]; exact decide_eq_true hp
              have HRF := Aside0.mk (HDOT2.out hp)
              clear hp h46
              go_wp2_with (go_at_call 18; (with_reducible refine (HFC.out _).mono ?_); rintro e w' ⟨rfl, rfl⟩)
              go_roundw
              case rel => exact ⟨t + 1, zs, [], false, rfl, rfl, HO2, HB2, HI2, HC2, HRF, HL.out⟩
              case measure =>
                have := HL.out
                rw [HM.out, HM2.out]
                omega
            · have hq : ((c.toNat : Int) == 46) = false := by rw [h46]; exact decide_eq_false hp
              have HRF := Aside0.mk (HBLD2.out hp)
              clear hp h46
              go_wp2_with (go_at_call 18; (with_reducible refine (HFC.out _).mono ?_); rintro e w' ⟨rfl, rfl⟩)
              go_roundw
              case rel => exact ⟨t + 1, zs, [c], true, by first | rfl | rw [henc], rfl, HO2, HB2, HI2, HC2, HRF, HL.out⟩
              case measure =>
                have := HL.out
                rw [HM.out, HM2.out]
                omega
          | cons x cu =>
            have hne : x :: cu ≠ [] := by simp
            have HCV : Aside0 (Ss.cvt (By.ofL (x :: cu)) = some (Bv.decV (x :: cu))) := ⟨lk_cvt _ HALL.out.1 hne⟩
            rw [if_neg hne] at HDOT HBLD
            have hl0 : (By.ofL (x :: cu)).toList = x :: cu := by rw [By.toList_bl, By.bl_ofL]
            have hl : ((By.ofL (x :: cu)).toList == []) = false := by rw [hl0]; rfl
            have hl2 : (By.ofL (x :: cu)).toList.isEmpty = false := by rw [hl0]; rfl
            generalize Bv.decV (x :: cu) = z0 at HCV HDOT HBLD
            have hxs : (By.ofL (x :: cu)).size ≤ 1000000 := by omega
            clear hadd hl0 hne hz1 hcl
            have hS : HALL = HALL := rfl
            generalize hSS : By.ofL (x :: cu) = S at HCV hl hl2 hxs ⊢
            have hE1 : ErrAt gEOF a w2 := HG.out.1.below HB2.out
            have hN1 : ErrAt gND a2 w2 := HG.out.2.below HB2.out
            have hBO : Below w2.heap.size w2 (w2.alloc (.cells #[.bool false, .slice none 0 0] Big.TI)) := (Below.refl _ _).alloc (Nat.le_refl _) _
            have hC := Aside0.mk (Ss.ss_SetString S w2.heap.size a a2 (w2.alloc (.cells #[.bool false, .slice none 0 0] Big.TI)) hxs (by simp) (blk_new w2 _) (hE1.below hBO) (hN1.below hBO) hE1.lt hN1.lt)
            have HBO := Aside0.mk hBO
            have HZL : Aside0 (w.heap.size + 1 < w2.heap.size) := ⟨(Array.getElem?_eq_some_iff.1 HI2.out).1⟩
            have HLZ : Aside0 (zs.length ≤ 300000) := ⟨by have := HALL.out.2; omega⟩
            clear hnl ht
            clear HO HB HI HC HR hcq hw2 htl hbc hlt hc hd hdd hE1 hN1 hBO hS hSS HALL hG1 hxs
            have HNXT : Aside0 (∃ cur2 fb2, (if c = 46 then (cur2 = [] ∧ fb2 = false) else (cur2 = [c] ∧ fb2 = true)) ∧ LkR (By.bl L) (zs ++ [z0]) cur2 fb2 (t + 1)) := ⟨by
              by_cases hp : c = 46
              · exact ⟨[], false, by rw [if_pos hp]; exact ⟨rfl, rfl⟩, HDOT.out hp⟩
              · exact ⟨[c], true, by rw [if_neg hp]; exact ⟨rfl, rfl⟩, HBLD.out hp⟩⟩
            go_wp2_with (go_at_call 18; (with_reducible refine (HFC.out _).mono ?_); rintro e w' ⟨rfl, rfl⟩)
            go_wp2_with (go_at_call 19; (with_reducible refine (hC.out).mono ?_))
            rintro e W3 ⟨hB3, h3⟩
            have HB3 : Aside0 (Below w2.heap.size w2 W3) := ⟨HBO.out.trans hB3⟩
            have HI3 : Aside0 (W3.heap[w.heap.size + 1]? = some (.stringIter L (t + 1))) := ⟨(HB3.out.block _ HZL.out).trans HI2.out⟩
            have HC3 : Aside0 (LkC w.heap.size W3) := ⟨by
              obtain ⟨v0, v1, v2, v3, h⟩ := HC2.out
              exact ⟨v0, v1, v2, v3, (HB3.out.block _ (by have := HZL.out; omega)).trans h⟩⟩
            have HB3w : Aside0 (Below w.heap.size w W3) := ⟨HB2.out.trans (HB3.out.mono (by have := HZL.out; omega))⟩
            clear hB3 hC
            rcases h3 with ⟨hn, rfl⟩ | ⟨z, hz, rfl, hO⟩
            · exfalso
              rw [HCV.out] at hn
              cases hn
            · obtain rfl : z0 = z := by rw [HCV.out] at hz; exact Option.some.inj hz
              have hlt := Kd.R_lt HO2.out
              have HO1 : Aside0 (Kd.R Big.kd 50 W3 (w.heap.size + 2) (fun _ => True) u3 zs) := ⟨Kd.R_below HO2.out HB3.out⟩
              have HM3 : Aside0 (Big.kd.M W3 (w.heap.size + 2) (fun k => True ∧ some k ≠ u3.ownBlock) z0 [.pointer (some ⟨w2.heap.size, 0, none⟩)]) := ⟨⟨_, rfl, Big.Own.mono (fun k hk => ⟨trivial, fun e => by
                have h1 := hlt k e.symm
                have h2 := hk.2.1
                omega⟩) (Big.Own.lower (by have := HZL.out; omega) hO.bound)⟩⟩
              have HSZ : Aside0 (w.heap.size + 2 ≤ W3.heap.size) := ⟨by have := HZL.out; have := HB3.out.size; omega⟩
              clear hz hO hlt
              go_wp2_with ((with_reducible refine gate_builtin (b := .append) (xs := #[.tmp 43, .tmp 45]) rfl ?_); at_builtin; refine Kd.R_append Big.kd (w0 := W3) (w.heap.size + 2) rfl (.tmp 43) (.tmp 45) 32 50 (.pointer none) 8 rfl Tryz.underlying32 lk_infoP rfl (by decide) (by omega) u3 zs z0 [.pointer (some ⟨w2.heap.size, 0, none⟩)] (fun _ => True) (fun k => True ∧ some k ≠ u3.ownBlock) rfl (by first | rfl | (go_simp; done)) HM3.out (fun _ hk => hk) (fun _ _ => trivial) HO1.out (Below.refl _ _) HSZ.out (by have := HLZ.out; simp; omega) ?_)
              intro v1 W4 ho hb2 hg hat
              have HO4 := Aside0.mk ho
              have HI4 : Aside0 (W4.heap[w.heap.size + 1]? = some (.stringIter L (t + 1))) := ⟨(hb2.block _ (by omega)).trans HI3.out⟩
              have HC4 : Aside0 (LkC w.heap.size W4) := ⟨by
                obtain ⟨v0, v1, v2, v3, h⟩ := HC3.out
                exact ⟨v0, v1, v2, v3, (hb2.block _ (by omega)).trans h⟩⟩
              have HB4 : Aside0 (Below w.heap.size w W4) := ⟨HB3w.out.trans (hb2.mono (by omega))⟩
              have HM4 : Aside0 (W4.iterPos (w.heap.size + 1) = t + 1) := ⟨by simp only [World.iterPos]; rw [HI4.out]⟩
              clear ho hb2 hg hat HM3 HO1
              by_cases hp : c = 46
              · have hq : ((c.toNat : Int) == 46) = true := by rw [h46]; exact decide_eq_true hp
                have HRF := Aside0.mk (HDOT.out hp)
                clear hp h46
                go_wp2
                go_roundw
                case rel => exact ⟨t + 1, zs ++ [z0], [], false, rfl, rfl, HO4, HB4, HI4, HC4, HRF, HL.out⟩
                case measure =>
                  have := HL.out
                  rw [HM.out, HM4.out]
                  omega
              · have hq : ((c.toNat : Int) == 46) = false := by rw [h46]; exact decide_eq_false hp
                have HRF := Aside0.mk (HBLD.out hp)
                clear hp h46
                go_wp2
                go_roundw
                case rel => exact ⟨t + 1, zs ++ [z0], [c], true, by first | rfl | rw [henc], rfl, HO4, HB4, HI4, HC4, HRF, HL.out⟩
                case measure =>
                  have := HL.out
                  rw [HM.out, HM4.out]
                  omega
    · obtain rfl : t = n := by rw [HNN.out] at ht ⊢; omega
      have hnx : ∀ ty, (Instr.next (.pointer (some ⟨w.heap.size + 1, 0, none⟩)) true ty).run Tryz.prog wr = _ := fun ty => Lib.run_next_end_at wr (w.heap.size + 1) L t ty HI.out (by omega)
      obtain ⟨v0, v1, v2, v3, hC0⟩ := HC.out
      have g0 : wr.cell? ⟨w.heap.size, 0, none⟩ = some v0 := (blk_cell hC0 0).trans rfl
      have g1 : wr.cell? ⟨w.heap.size, 1, none⟩ = some v1 := (blk_cell hC0 1).trans rfl
      have g2 : wr.cell? ⟨w.heap.size, 2, none⟩ = some v2 := (blk_cell hC0 2).trans rfl
      have g3 : wr.cell? ⟨w.heap.size, 3, none⟩ = some v3 := (blk_cell hC0 3).trans rfl
      have f0 : wr.frozen? ⟨w.heap.size, 0, none⟩ = false := blk_frozen hC0 0
      have f1 : wr.frozen? ⟨w.heap.size, 1, none⟩ = false := blk_frozen hC0 1
      have f2 : wr.frozen? ⟨w.heap.size, 2, none⟩ = false := blk_frozen hC0 2
      have f3 : wr.frozen? ⟨w.heap.size, 3, none⟩ = false := blk_frozen hC0 3
      cases fb with
      | true =>
        obtain ⟨A, cc, rfl, hcc, hrd⟩ := Kd.R_reads HO.out
        obtain ⟨b4, b5, b6, b7⟩ := lk_end vv (By.ofL cur) s hC0 HO.out (by omega) HB.out
        have HF : Aside0 (res = (zs, cur)) := ⟨by rw [HRES.out]; exact HR.out.done (by rw [By.bl_length]; omega)⟩
        obtain rfl := HF.out
        have p0 := (blk_cell b4 0).trans rfl
        have p1 := (blk_cell b4 1).trans rfl
        have p2 := (blk_cell b4 2).trans rfl
        have p3 := (blk_cell b4 3).trans rfl
        simp only [lkW] at p0 p1 p2 p3
        have HE := Aside0.mk (And.intro b5 (And.intro b6 b7))
        clear hlt hC0 b4 b5 b6 b7 HF hcc hrd
        go_wp2
        exact bodyPost_ret (v := .agg #[.bool vv, .slice A zs.length cc, .string (By.ofL cur), .string s]) (by simp [results, Tryz.results12, go_sem, p0, p1, p2, p3]) rfl ⟨HE.out.1, A, cc, rfl, HE.out.2.1, HE.out.2.2⟩
      | false =>
        have HALL : Aside0 (cur.all By.dg = true ∧ zs.length ≤ t) := ⟨by have := HR.out.2.2; rw [if_neg (by decide)] at this; exact this.1, HR.out.2.1⟩
        have HDN : Aside0 (res = (zs ++ if cur = [] then [] else [Bv.decV cur], [])) := ⟨by rw [HRES.out]; exact HR.out.done2 (by rw [By.bl_length]; omega)⟩
        cases cur with
        | nil =>
          obtain ⟨A, cc, rfl, hcc, hrd⟩ := Kd.R_reads HO.out
          obtain ⟨b4, b5, b6, b7⟩ := lk_end vv ⟨#[]⟩ s hC0 HO.out (by omega) HB.out
          have HF : Aside0 (res = (zs, [])) := ⟨by rw [HDN.out, if_pos rfl, List.append_nil]⟩
          obtain rfl := HF.out
          have p0 := (blk_cell b4 0).trans rfl
          have p1 := (blk_cell b4 1).trans rfl
          have p2 := (blk_cell b4 2).trans rfl
          have p3 := (blk_cell b4 3).trans rfl
          simp only [lkW] at p0 p1 p2 p3
          have HE := Aside0.mk (And.intro b5 (And.intro b6 b7))
          have e0 : By.ofL [] = ⟨#[]⟩ := rfl
          rw [e0]
          clear hlt hC0 b4 b5 b6 b7 HF hcc hrd
          go_wp2
          exact bodyPost_ret (v := .agg #[.bool vv, .slice A zs.length cc, .string ⟨#[]⟩, .string s]) (by simp [results, Tryz.results12, go_sem, p0, p1, p2, p3]) rfl ⟨HE.out.1, A, cc, rfl, HE.out.2.1, HE.out.2.2⟩
        | cons x cu =>
          have hne : x :: cu ≠ [] := by simp
          have HCV : Aside0 (Ss.cvt (By.ofL (x :: cu)) = some (Bv.decV (x :: cu))) := ⟨lk_cvt _ HALL.out.1 hne⟩
          rw [if_neg hne] at HDN
          have hl0 : (By.ofL (x :: cu)).toList = x :: cu := by rw [By.toList_bl, By.bl_ofL]
          have hl : ((By.ofL (x :: cu)).toList == []) = false := by rw [hl0]; rfl
          have hl2 : (By.ofL (x :: cu)).toList.isEmpty = false := by rw [hl0]; rfl
          have hxs : (By.ofL (x :: cu)).size ≤ 1000000 := by rw [By.ofL_size]; omega
          generalize Bv.decV (x :: cu) = z0 at HCV HDN
          clear hl0 hne hcl
          generalize hSS : By.ofL (x :: cu) = S at HCV hl hl2 hxs ⊢
          have hE1 : ErrAt gEOF a wr := HG.out.1.below HB.out
          have hN1 : ErrAt gND a2 wr := HG.out.2.below HB.out
          have hBO : Below wr.heap.size wr (wr.alloc (.cells #[.bool false, .slice none 0 0] Big.TI)) := (Below.refl _ _).alloc (Nat.le_refl _) _
          have hC := Aside0.mk (Ss.ss_SetString S wr.heap.size a a2 (wr.alloc (.cells #[.bool false, .slice none 0 0] Big.TI)) hxs (by simp) (blk_new wr _) (hE1.below hBO) (hN1.below hBO) hE1.lt hN1.lt)
          have HBO := Aside0.mk hBO
          have HZL : Aside0 (w.heap.size + 1 < wr.heap.size) := ⟨(Array.getElem?_eq_some_iff.1 HI.out).1⟩
          have HLZ : Aside0 (zs.length ≤ 300000) := ⟨by have := HALL.out.2; omega⟩
          have HC0 := Aside0.mk hC0
          clear hE1 hN1 hBO hSS HALL hxs hnl ht g0 g1 g2 g3 f0 f1 f2 f3 hC0 hlt HC HR
          go_wp2_with (go_at_call 19; (with_reducible refine (hC.out).mono ?_))
          rintro e W3 ⟨hB3, h3⟩
          have HB3 : Aside0 (Below wr.heap.size wr W3) := ⟨HBO.out.trans hB3⟩
          have HC3 := Aside0.mk ((HB3.out.block w.heap.size (by have := HZL.out; omega)).trans HC0.out)
          have HB3w : Aside0 (Below w.heap.size w W3) := ⟨HB.out.trans (HB3.out.mono (by have := HZL.out; omega))⟩
          clear hB3 hC
          rcases h3 with ⟨hn, rfl⟩ | ⟨z, hz, rfl, hO⟩
          · exfalso
            rw [HCV.out] at hn
            cases hn
          · obtain rfl : z0 = z := by rw [HCV.out] at hz; exact Option.some.inj hz
            have hlt := Kd.R_lt HO.out
            have HO1 : Aside0 (Kd.R Big.kd 50 W3 (w.heap.size + 2) (fun _ => True) u3 zs) := ⟨Kd.R_below HO.out HB3.out⟩
            have HM3 : Aside0 (Big.kd.M W3 (w.heap.size + 2) (fun k => True ∧ some k ≠ u3.ownBlock) z0 [.pointer (some ⟨wr.heap.size, 0, none⟩)]) := ⟨⟨_, rfl, Big.Own.mono (fun k hk => ⟨trivial, fun e => by
              have h1 := hlt k e.symm
              have h2 := hk.2.1
              omega⟩) (Big.Own.lower (by have := HZL.out; omega) hO.bound)⟩⟩
            have HSZ : Aside0 (w.heap.size + 2 ≤ W3.heap.size) := ⟨by have := HZL.out; have := HB3.out.size; omega⟩
            clear hz hO hlt
            go_wp2_with ((with_reducible refine gate_builtin (b := .append) (xs := #[.tmp 63, .tmp 65]) rfl ?_); at_builtin; refine Kd.R_append Big.kd (w0 := W3) (w.heap.size + 2) rfl (.tmp 63) (.tmp 65) 32 50 (.pointer none) 8 rfl Tryz.underlying32 lk_infoP rfl (by decide) (by omega) u3 zs z0 [.pointer (some ⟨wr.heap.size, 0, none⟩)] (fun _ => True) (fun k => True ∧ some k ≠ u3.ownBlock) rfl (by first | rfl | (go_simp; done)) HM3.out (fun _ hk => hk) (fun _ _ => trivial) HO1.out (Below.refl _ _) HSZ.out (by have := HLZ.out; simp; omega) ?_)
            intro v1 W4 ho hb2 hg hat
            have hC4 := (hb2.block w.heap.size (by omega)).trans HC3.out
            have hB4 : Below w.heap.size w W4 := HB3w.out.trans (hb2.mono (by omega))
            obtain ⟨zr, hzr⟩ : ∃ zr, zr = zs ++ [z0] := ⟨_, rfl⟩
            rw [← hzr] at ho HDN
            obtain ⟨A, cc, rfl, hcc, hrd⟩ := Kd.R_reads ho
            obtain ⟨b4, b5, b6, b7⟩ := lk_end vv ⟨#[]⟩ s hC4 ho (by omega) hB4
            obtain rfl := HDN.out
            have g0 := (blk_cell hC4 0).trans rfl
            have g1 := (blk_cell hC4 1).trans rfl
            have g2 := (blk_cell hC4 2).trans rfl
            have g3 := (blk_cell hC4 3).trans rfl
            have f0 : W4.frozen? ⟨w.heap.size, 0, none⟩ = false := blk_frozen hC4 0
            have f1 : W4.frozen? ⟨w.heap.size, 1, none⟩ = false := blk_frozen hC4 1
            have f2 : W4.frozen? ⟨w.heap.size, 2, none⟩ = false := blk_frozen hC4 2
            have f3 : W4.frozen? ⟨w.heap.size, 3, none⟩ = false := blk_frozen hC4 3
            have p0 := (blk_cell b4 0).trans rfl
            have p1 := (blk_cell b4 1).trans rfl
            have p2 := (blk_cell b4 2).trans rfl
            have p3 := (blk_cell b4 3).trans rfl
            simp only [lkW] at p0 p1 p2 p3
            have HE := Aside0.mk (And.intro b5 (And.intro b6 b7))
            clear hC4 hB4 ho hb2 hg hat b4 b5 b6 b7 hcc hrd hzr HM3 HO1
            go_wp2
            exact bodyPost_ret (v := .agg #[.bool vv, .slice A zr.length cc, .string ⟨#[]⟩, .string s]) (by simp [results, Tryz.results12, go_sem, p0, p1, p2, p3]) rfl ⟨HE.out.1, A, cc, rfl, HE.out.2.1, HE.out.2.2⟩

theorem hcell' {W W' : World} {a : Addr} {v : Value} (hb : Below W.heap.size W W') (h : W.cell? a = some v) : W'.cell? a = some v := (hb.cell (World.block_lt_of_cell? W _ h)).trans h
def SemverB (k : Nat) (x y : ByteArray) : Option Int := semantic_compareBuildComponents.f k x y
theorem SemverB.mono : ∀ x y k, LeO (SemverB k x y) (SemverB (k + 1) x y) := semantic_compareBuildComponents.mono
/-- How two versions compare: their numbers, then what stands behind them. -/
def SemverC (k : Nat) (l1 : List Int) (b1 : ByteArray) (l2 : List Int) (b2 : ByteArray) : Option Int := if cmpLists l1 l2 = 0 then SemverB k b1 b2 else some (cmpLists l1 l2)
set_option maxRecDepth 100000 in
set_option maxHeartbeats 4000000 in
theorem cmp_Semver (k : Nat) (v1 : Bool) (A1 : Option Addr) (c1 : Nat) (l1 : List Int) (b1 s1 : ByteArray) (v2 : Bool) (A2 : Option Addr) (c2 : Nat) (l2 : List Int) (b2 s2 : ByteArray) (r : Int) (w : World) (hr : Kd.C Big.kd w A1 l1.length l1) (hc : l1.length ≤ c1) (hr' : Kd.C Big.kd w A2 l2.length l2) (hc' : l2.length ≤ c2) (hG : GW w) (h : SemverC k l1 b1 l2 b2 = some r) :
    Calls Tryz.prog 11 #[.agg #[.bool v1, .slice A1 l1.length c1, .string b1, .string s1], .agg #[.bool v2, .slice A2 l2.length c2, .string b2, .string s2]] w fun e w' => e = .returned (.int .i64 r) ∧ Below w.heap.size w w' := by
  have hu := Tryz.underlying37
  have hu2 := Tryz.underlying35
  obtain ⟨W0, hW0⟩ : ∃ W0, w.alloc (.cells #[.bool v1, .slice A1 l1.length c1, .string b1, .string s1] 37) = W0 := ⟨_, rfl⟩
  obtain ⟨WA, hWA⟩ : ∃ WA, W0.alloc (.cells #[.bool v2, .slice A2 l2.length c2, .string b2, .string s2] 37) = WA := ⟨_, rfl⟩
  have hB0 : Below w.heap.size w W0 := by rw [← hW0]; exact (Below.refl _ _).alloc (Nat.le_refl _) _
  have hz0 : W0.heap.size = w.heap.size + 1 := by rw [← hW0]; simp
  have hB1 : Below W0.heap.size W0 WA := by rw [← hWA]; exact (Below.refl _ _).alloc (Nat.le_refl _) _
  have hBA : Below w.heap.size w WA := hB0.trans (hB1.mono (by omega))
  have g1 : WA.heap[w.heap.size]? = some (.cells #[.bool v1, .slice A1 l1.length c1, .string b1, .string s1] 37 (0, 0)) := by
    rw [← hW0] at hB1 hz0
    exact (hB1.block w.heap.size (by omega)).trans (blk_new w _)
  have g2 : WA.heap[w.heap.size + 1]? = some (.cells #[.bool v2, .slice A2 l2.length c2, .string b2, .string s2] 37 (0, 0)) := by
    rw [← hz0, ← hWA]
    exact blk_new W0 _
  have k11 : WA.cell? ⟨w.heap.size, 1, none⟩ = some (.slice A1 l1.length c1) := (blk_cell g1 1).trans rfl
  have k21 : WA.cell? ⟨w.heap.size + 1, 1, none⟩ = some (.slice A2 l2.length c2) := (blk_cell g2 1).trans rfl
  have hl1 : w.heap.size < WA.heap.size := (Array.getElem?_eq_some_iff.1 g1).1
  have hl2 : w.heap.size + 1 < WA.heap.size := (Array.getElem?_eq_some_iff.1 g2).1
  have hC := Aside0.mk (big_CompsCmp w.heap.size 1 A1 c1 l1 A2 c2 l2 WA k11 (Kd.C_below hr hBA) hc (Kd.C_below hr' hBA) hc')
  have HB := Aside0.mk hBA
  have hk : Aside0 (∀ W, Below WA.heap.size WA W → W.cell? ⟨w.heap.size, 2, none⟩ = some (.string b1) ∧ W.cell? ⟨w.heap.size + 1, 2, none⟩ = some (.string b2)) := ⟨fun W h => ⟨(blk_cell ((h.block _ hl1).trans g1) 2).trans rfl, (blk_cell ((h.block _ hl2).trans g2) 2).trans rfl⟩⟩
  obtain ⟨x, hx⟩ : ∃ x, x = cmpLists l1 l2 := ⟨_, rfl⟩
  have HR : Aside0 (SemverC k l1 b1 l2 b2 = if x = 0 then SemverB k b1 b2 else some x) := ⟨by rw [hx]; rfl⟩
  rw [← hx] at hC
  have HG := Aside0.mk hG
  have HH := Aside0.mk h
  obtain ⟨n, hn⟩ : ∃ n, n = l1.length := ⟨_, rfl⟩
  obtain ⟨m, hm⟩ : ∃ m, m = l2.length := ⟨_, rfl⟩
  rw [← hm] at hC
  rw [← hn] at hW0 k11 ⊢
  rw [← hm] at hWA k21 ⊢
  clear hr hr' hc hc' hB0 hB1 hBA hx hn hm g1 g2 hl1 hl2 hG h
  rcases Decidable.em (x = 0) with rfl | h0
  · have HV : Aside0 (SemverB k b1 b2 = some r) := ⟨by rw [← HH.out, HR.out, if_pos rfl]⟩
    clear HH HR
    go_enter Tryz.func11, Tryz.ntmps11
    go_wp2_with (go_at_call 14; (with_reducible refine (hC.out).mono ?_))
    rintro e W3 ⟨rfl, hb⟩
    obtain ⟨q1, q2⟩ := hk.out W3 hb
    have HB3 : Aside0 (Below w.heap.size w W3) := ⟨HB.out.trans (hb.mono HB.out.size)⟩
    have hb0 := hb
    clear hb
    clear hb0
    have HCB := Aside0.mk (semantic_compareBuildComponents.calls k b1 b2 r W3 (GW.below HG.out HB3.out) HV.out)
    go_wp2_with (go_at_call 15; (with_reducible refine (HCB.out).mono ?_))
    rintro e W4 ⟨rfl, hb4⟩
    have HB4 : Aside0 (Below w.heap.size w W4) := ⟨HB3.out.trans (hb4.mono HB3.out.size)⟩
    clear hb4
    go_wp2
    go_ret
    exact ⟨rfl, HB4.out⟩
  · have HV : Aside0 (r = x) := ⟨by have h2 := HH.out; rw [HR.out, if_neg h0] at h2; exact (Option.some.inj h2).symm⟩
    rw [HV.out]
    clear HV HH HR
    have e0 : (x != 0) = true := by simp [h0]
    have e1 : (x == 0) = false := by simp [h0]
    go_enter Tryz.func11, Tryz.ntmps11
    go_wp2_with (go_at_call 14; (with_reducible refine (hC.out).mono ?_))
    rintro e W3 ⟨rfl, hb⟩
    have HB3 : Aside0 (Below w.heap.size w W3) := ⟨HB.out.trans (hb.mono HB.out.size)⟩
    clear hb hk
    go_wp2
    go_ret
    exact ⟨rfl, HB3.out⟩
/-! a text's version: at most three numbers -/
def q4W (W : World) (b : Nat) (x0 x1 x2 x3 : Value) : World := (((W.setCell ⟨b, 0, none⟩ x0).setCell ⟨b, 1, none⟩ x1).setCell ⟨b, 2, none⟩ x2).setCell ⟨b, 3, none⟩ x3
theorem q4_blk {W : World} {b : Nat} {v0 v1 v2 v3 x0 x1 x2 x3 : Value} {t : TypeId} (h : W.heap[b]? = some (.cells #[v0, v1, v2, v3] t (0, 0))) : (q4W W b x0 x1 x2 x3).heap[b]? = some (.cells #[x0, x1, x2, x3] t (0, 0)) :=
  blk_put (cs := #[x0, x1, x2, v3]) (blk_put (cs := #[x0, x1, v2, v3]) (blk_put (cs := #[x0, v1, v2, v3]) (blk_put h 0 _ rfl) 1 _ rfl) 2 _ rfl) 3 _ rfl
theorem q4_far {W : World} {b g : Nat} {x0 x1 x2 x3 : Value} (hg : g ≠ b) : (q4W W b x0 x1 x2 x3).heap[g]? = W.heap[g]? := by
  unfold q4W
  rw [Below.heap_setCell _ _ _ _ hg, Below.heap_setCell _ _ _ _ hg, Below.heap_setCell _ _ _ _ hg, Below.heap_setCell _ _ _ _ hg]
theorem q4_below {w W : World} {b : Nat} {x0 x1 x2 x3 : Value} (h : Below w.heap.size w W) (hb : w.heap.size ≤ b) : Below w.heap.size w (q4W W b x0 x1 x2 x3) := by
  have hs : ∀ {X : World} {j : Nat} {y : Value}, Below w.heap.size w X → Below w.heap.size w (X.setCell ⟨b, j, none⟩ y) := fun {X j y} hx => hx.setCell (p := ⟨b, j, none⟩) hb y
  exact hs (hs (hs (hs h)))
theorem st_keep {W W' : World} {g : Nat} {o : Obj} (hb : Below W.heap.size W W') (h : W.heap[g]? = some o) : W'.heap[g]? = some o := (hb.block g (Array.getElem?_eq_some_iff.1 h).1).trans h
theorem st_R {W : World} {base b : Nat} {v : Value} {zs : List Int} {x0 x1 x2 x3 : Value} (h : Kd.R Big.kd 50 W base (fun _ => True) v zs) (hb : b < base) : Kd.R Big.kd 50 (q4W W b x0 x1 x2 x3) base (fun _ => True) v zs :=
  Kd.R_mono (Kd.R_step (Kd.R_bound h) (fun k hk _ => q4_far (by have := hk.2.1; omega))) (fun _ _ => trivial)
theorem st_reads {W : World} {base n c : Nat} {A : Option Addr} {zs : List Int} (h : Kd.R Big.kd 50 W base (fun _ => True) (.slice A n c) zs) (hn : n = zs.length) : Kd.C Big.kd W A zs.length zs := by
  obtain ⟨A', c', e, hc, hr⟩ := Kd.R_reads h
  simp only [Value.slice.injEq] at e
  rw [e.1]
  exact hr
set_option maxRecDepth 100000 in
set_option maxHeartbeats 8000000 in
theorem st_fetch (g : Nat) (vv : Bool) (A : Option Addr) (n c : Nat) (b s : ByteArray) (w : World) (hblk : w.heap[g]? = some (.cells #[.bool vv, .slice A n c, .string b, .string s] 35 (0, 0))) (h3 : n ≤ 3) :
    Calls Tryz.prog 13 #[.pointer (some ⟨g, 0, none⟩), .int .i64 3] w fun e w' => e = .returned (.tuple #[.slice A n c, .string b]) ∧ Below w.heap.size w w' := by
  have c1 : w.cell? ⟨g, 1, none⟩ = some (.slice A n c) := (blk_cell hblk 1).trans rfl
  have c2 : w.cell? ⟨g, 2, none⟩ = some (.string b) := (blk_cell hblk 2).trans rfl
  have d1 : decide ((n : Int) ≤ 3) = true := decide_eq_true (by omega)
  have d2 : decide (n ≤ 3) = true := decide_eq_true h3
  clear hblk h3
  go_enter Tryz.func13, Tryz.ntmps13
  go_wp2
  go_quiet (fail)
  go_wp2
  go_ret2
  exact ⟨by first | rfl | (simp; done), by first | exact Below.refl _ _ | exact pw_below_drewN (Below.refl _ _) _⟩
set_option maxRecDepth 100000 in
set_option maxHeartbeats 8000000 in
theorem st_parse (s : ByteArray) (w : World) (hs : s.size ≤ 300000) (hlow : ∀ c ∈ By.bl s, c.toNat < 128) (h3 : (lkP s).1.length ≤ 3) (hG : GW w) : Calls Tryz.prog 10 #[.string s, .int .i64 3] w (LkP s w) := by
  obtain ⟨WA, hWA⟩ : ∃ WA, w.alloc (.cells #[.bool false, .slice none 0 0, .string ⟨#[]⟩, .string ⟨#[]⟩] 35) = WA := ⟨_, rfl⟩
  have hBA : Below w.heap.size w WA := by rw [← hWA]; exact (Below.refl _ _).alloc (Nat.le_refl _) _
  have HRA : Aside0 (WA.heap[w.heap.size]? = some (.cells #[.bool false, .slice none 0 0, .string ⟨#[]⟩, .string ⟨#[]⟩] 35 (0, 0))) := ⟨by rw [← hWA]; exact blk_new w _⟩
  have HSZ : Aside0 (w.heap.size < WA.heap.size) := ⟨by rw [← hWA]; simp⟩
  have HL := Aside0.mk (like_parse s WA hs hlow (GW.below hG hBA))
  have HBA := Aside0.mk hBA
  have hu := Tryz.underlying35
  have H3 : Aside0 ((lkP s).1.length ≤ 3) := ⟨h3⟩
  clear hs hlow h3 hG hBA
  go_enter Tryz.func10, Tryz.ntmps10
  go_wp2_with (go_at_call 12; (with_reducible refine (HL.out).mono ?_))
  rintro e W1 ⟨hb1, A, c, rfl, ⟨hC, hR⟩, hc⟩
  obtain ⟨n, hn⟩ : ∃ n, n = (lkP s).1.length := ⟨_, rfl⟩
  obtain ⟨b, hbb⟩ : ∃ b, b = By.ofL (lkP s).2 := ⟨_, rfl⟩
  obtain ⟨vv, hvv⟩ : ∃ vv, vv = lkV s := ⟨_, rfl⟩
  have HEQ : Aside0 (n = (lkP s).1.length ∧ b = By.ofL (lkP s).2 ∧ vv = lkV s) := ⟨hn, hbb, hvv⟩
  rw [← hn, ← hbb, ← hvv]
  rw [← hn] at hR hc
  have HB1 := Aside0.mk hb1
  have HR1 := Aside0.mk hR
  have HC1 : Aside0 (n ≤ c) := ⟨hc⟩
  obtain ⟨W2, hW2⟩ : ∃ W2, W1.alloc (.cells #[.bool vv, .slice A n c, .string b, .string s] 35) = W2 := ⟨_, rfl⟩
  have hB2 : Below W1.heap.size W1 W2 := by rw [← hW2]; exact (Below.refl _ _).alloc (Nat.le_refl _) _
  have HG2 : Aside0 (W2.heap[W1.heap.size]? = some (.cells #[.bool vv, .slice A n c, .string b, .string s] 35 (0, 0))) := ⟨by rw [← hW2]; exact blk_new W1 _⟩
  have HB2 := Aside0.mk hB2
  have HF := Aside0.mk (st_fetch W1.heap.size vv A n c b s W2 HG2.out (by rw [hn]; exact H3.out))
  clear hb1 hC hR hc hn hbb hvv hB2
  go_wp2_with (go_at_call 13; (with_reducible refine (HF.out).mono ?_))
  rintro e W3 ⟨rfl, hb3⟩
  have hg3 := st_keep hb3 HG2.out
  have k0 : W3.cell? ⟨W1.heap.size, 0, none⟩ = some (.bool vv) := (blk_cell hg3 0).trans rfl
  have k3 : W3.cell? ⟨W1.heap.size, 3, none⟩ = some (.string s) := (blk_cell hg3 3).trans rfl
  have HR3 := Aside0.mk (Kd.R_below (Kd.R_below HR1.out HB2.out) hb3)
  have hblk := st_keep hb3 (st_keep HB2.out (st_keep HB1.out HRA.out))
  have HB3 : Aside0 (Below w.heap.size w W3) := ⟨by
    have h1 := HBA.out.trans (HB1.out.mono HBA.out.size)
    have h2 := h1.trans (HB2.out.mono h1.size)
    exact h2.trans (hb3.mono h2.size)⟩
  have f0 := blk_frozen hblk 0
  have f1 := blk_frozen hblk 1
  have f2 := blk_frozen hblk 2
  have f3 := blk_frozen hblk 3
  have d0 : W3.cell? ⟨w.heap.size, 0, none⟩ = some (.bool false) := (blk_cell hblk 0).trans rfl
  have d1 : W3.cell? ⟨w.heap.size, 1, none⟩ = some (.slice none 0 0) := (blk_cell hblk 1).trans rfl
  have d2 : W3.cell? ⟨w.heap.size, 2, none⟩ = some (.string ⟨#[]⟩) := (blk_cell hblk 2).trans rfl
  have d3 : W3.cell? ⟨w.heap.size, 3, none⟩ = some (.string ⟨#[]⟩) := (blk_cell hblk 3).trans rfl
  obtain ⟨w5, hw5⟩ : ∃ w5, q4W W3 w.heap.size (.bool vv) (.slice A n c) (.string b) (.string s) = w5 := ⟨_, rfl⟩
  have hq : w5.heap[w.heap.size]? = some (.cells #[.bool vv, .slice A n c, .string b, .string s] 35 (0, 0)) := by rw [← hw5]; exact q4_blk hblk
  have HBW : Aside0 (Below w.heap.size w w5) := ⟨by rw [← hw5]; exact q4_below HB3.out (Nat.le_refl _)⟩
  have HRW : Aside0 (Kd.R Big.kd 50 w5 w.heap.size (fun _ => True) (.slice A n c) (lkP s).1) := ⟨by
    rw [← hw5]
    exact Kd.R_lower (st_R HR3.out HSZ.out) (Nat.le_of_lt HSZ.out)⟩
  have p0 : w5.cell? ⟨w.heap.size, 0, none⟩ = some (.bool vv) := (blk_cell hq 0).trans rfl
  have p1 : w5.cell? ⟨w.heap.size, 1, none⟩ = some (.slice A n c) := (blk_cell hq 1).trans rfl
  have p2 : w5.cell? ⟨w.heap.size, 2, none⟩ = some (.string b) := (blk_cell hq 2).trans rfl
  have p3 : w5.cell? ⟨w.heap.size, 3, none⟩ = some (.string s) := (blk_cell hq 3).trans rfl
  unfold q4W at hw5
  clear hb3 hg3 hblk hq
  go_wp2
  exact bodyPost_ret (v := .agg #[.bool vv, .slice A n c, .string b, .string s]) (by simp [results, Tryz.results10, go_sem, p0, p1, p2, p3]) rfl ⟨HBW.out, A, c, by rw [HEQ.out.2.1, HEQ.out.2.2, ← HEQ.out.1], ⟨st_reads HRW.out HEQ.out.1, by rw [← HEQ.out.1]; exact HRW.out⟩, by rw [← HEQ.out.1]; exact HC1.out⟩
set_option maxRecDepth 100000 in
set_option maxHeartbeats 8000000 in
theorem st_Parse (s : ByteArray) (w : World) (hs : s.size ≤ 300000) (hlow : ∀ c ∈ By.bl s, c.toNat < 128) (h3 : (lkP s).1.length ≤ 3) (hG : GW w) : Calls Tryz.prog 8 #[.string s] w (LkP s w) := by
  obtain ⟨WA, hWA⟩ : ∃ WA, w.alloc (.cells #[.bool false, .slice none 0 0, .string ⟨#[]⟩, .string ⟨#[]⟩] 37) = WA := ⟨_, rfl⟩
  have hBA : Below w.heap.size w WA := by rw [← hWA]; exact (Below.refl _ _).alloc (Nat.le_refl _) _
  have HRA : Aside0 (WA.heap[w.heap.size]? = some (.cells #[.bool false, .slice none 0 0, .string ⟨#[]⟩, .string ⟨#[]⟩] 37 (0, 0))) := ⟨by rw [← hWA]; exact blk_new w _⟩
  have HSZ : Aside0 (w.heap.size < WA.heap.size) := ⟨by rw [← hWA]; simp⟩
  have HL := Aside0.mk (st_parse s WA hs hlow h3 (GW.below hG hBA))
  have HBA := Aside0.mk hBA
  have hu := Tryz.underlying35
  have hu2 := Tryz.underlying37
  clear hs hlow h3 hG hBA
  go_enter Tryz.func8, Tryz.ntmps8
  go_wp2_with (go_at_call 10; (with_reducible refine (HL.out).mono ?_))
  rintro e W3 ⟨hb1, A, c, rfl, ⟨hC, hR⟩, hc⟩
  obtain ⟨n, hn⟩ : ∃ n, n = (lkP s).1.length := ⟨_, rfl⟩
  obtain ⟨b, hbb⟩ : ∃ b, b = By.ofL (lkP s).2 := ⟨_, rfl⟩
  obtain ⟨vv, hvv⟩ : ∃ vv, vv = lkV s := ⟨_, rfl⟩
  have HEQ : Aside0 (n = (lkP s).1.length ∧ b = By.ofL (lkP s).2 ∧ vv = lkV s) := ⟨hn, hbb, hvv⟩
  rw [← hn, ← hbb, ← hvv]
  rw [← hn] at hR hc
  have HR3 := Aside0.mk hR
  have HC1 : Aside0 (n ≤ c) := ⟨hc⟩
  have hblk := st_keep hb1 HRA.out
  have HB3 : Aside0 (Below w.heap.size w W3) := ⟨HBA.out.trans (hb1.mono HBA.out.size)⟩
  have f0 := blk_frozen hblk 0
  have f1 := blk_frozen hblk 1
  have f2 := blk_frozen hblk 2
  have f3 := blk_frozen hblk 3
  have d0 : W3.cell? ⟨w.heap.size, 0, none⟩ = some (.bool false) := (blk_cell hblk 0).trans rfl
  have d1 : W3.cell? ⟨w.heap.size, 1, none⟩ = some (.slice none 0 0) := (blk_cell hblk 1).trans rfl
  have d2 : W3.cell? ⟨w.heap.size, 2, none⟩ = some (.string ⟨#[]⟩) := (blk_cell hblk 2).trans rfl
  have d3 : W3.cell? ⟨w.heap.size, 3, none⟩ = some (.string ⟨#[]⟩) := (blk_cell hblk 3).trans rfl
  obtain ⟨w5, hw5⟩ : ∃ w5, q4W W3 w.heap.size (.bool vv) (.slice A n c) (.string b) (.string s) = w5 := ⟨_, rfl⟩
  have hq : w5.heap[w.heap.size]? = some (.cells #[.bool vv, .slice A n c, .string b, .string s] 37 (0, 0)) := by rw [← hw5]; exact q4_blk hblk
  have HBW : Aside0 (Below w.heap.size w w5) := ⟨by rw [← hw5]; exact q4_below HB3.out (Nat.le_refl _)⟩
  have HRW : Aside0 (Kd.R Big.kd 50 w5 w.heap.size (fun _ => True) (.slice A n c) (lkP s).1) := ⟨by
    rw [← hw5]
    exact Kd.R_lower (st_R HR3.out HSZ.out) (Nat.le_of_lt HSZ.out)⟩
  have p0 : w5.cell? ⟨w.heap.size, 0, none⟩ = some (.bool vv) := (blk_cell hq 0).trans rfl
  have p1 : w5.cell? ⟨w.heap.size, 1, none⟩ = some (.slice A n c) := (blk_cell hq 1).trans rfl
  have p2 : w5.cell? ⟨w.heap.size, 2, none⟩ = some (.string b) := (blk_cell hq 2).trans rfl
  have p3 : w5.cell? ⟨w.heap.size, 3, none⟩ = some (.string s) := (blk_cell hq 3).trans rfl
  unfold q4W at hw5
  clear hb1 hC hR hc hn hbb hvv hblk hq
  go_wp2
  exact bodyPost_ret (v := .agg #[.bool vv, .slice A n c, .string b, .string s]) (by simp [results, Tryz.results8, go_sem, p0, p1, p2, p3]) rfl ⟨HBW.out, A, c, by rw [HEQ.out.2.1, HEQ.out.2.2, ← HEQ.out.1], ⟨st_reads HRW.out HEQ.out.1, by rw [← HEQ.out.1]; exact HRW.out⟩, by rw [← HEQ.out.1]; exact HC1.out⟩
set_option maxRecDepth 100000 in
set_option maxHeartbeats 8000000 in
theorem st_CompareStr (k : Nat) (v1 : Bool) (A1 : Option Addr) (c1 : Nat) (l1 : List Int) (b1 s1 : ByteArray) (s : ByteArray) (r : Int) (w : World) (hr : Kd.C Big.kd w A1 l1.length l1) (hc : l1.length ≤ c1) (hs : s.size ≤ 300000) (hlow : ∀ c ∈ By.bl s, c.toNat < 128) (h3 : (lkP s).1.length ≤ 3) (hG : GW w) (h : SemverC k l1 b1 (lkP s).1 (By.ofL (lkP s).2) = some r) :
    Calls Tryz.prog 9 #[.agg #[.bool v1, .slice A1 l1.length c1, .string b1, .string s1], .string s] w fun e w' => e = .returned (.tuple #[.int .i64 r, .nilIface]) ∧ Below w.heap.size w w' := by
  obtain ⟨WA, hWA⟩ : ∃ WA, w.alloc (.cells #[.bool v1, .slice A1 l1.length c1, .string b1, .string s1] 37) = WA := ⟨_, rfl⟩
  have hBA : Below w.heap.size w WA := by rw [← hWA]; exact (Below.refl _ _).alloc (Nat.le_refl _) _
  have hblk : WA.heap[w.heap.size]? = some (.cells #[.bool v1, .slice A1 l1.length c1, .string b1, .string s1] 37 (0, 0)) := by rw [← hWA]; exact blk_new w _
  have HP : Aside0 (∀ W, Below WA.heap.size WA W → Calls Tryz.prog 8 #[.string s] W (LkP s W)) := ⟨fun W hB => st_Parse s W hs hlow h3 (GW.below hG (hBA.trans (hB.mono hBA.size)))⟩
  have HCM : Aside0 (∀ W A2 c2, Below WA.heap.size WA W → Kd.C Big.kd W A2 (lkP s).1.length (lkP s).1 → (lkP s).1.length ≤ c2 → Calls Tryz.prog 11 #[.agg #[.bool v1, .slice A1 l1.length c1, .string b1, .string s1], .agg #[.bool (lkV s), .slice A2 (lkP s).1.length c2, .string (By.ofL (lkP s).2), .string s]] W fun e w' => e = .returned (.int .i64 r) ∧ Below W.heap.size W w') := ⟨fun W A2 c2 hB hC2 hc2 => by
    have hBw := hBA.trans (hB.mono hBA.size)
    exact cmp_Semver k v1 A1 c1 l1 b1 s1 (lkV s) A2 c2 (lkP s).1 (By.ofL (lkP s).2) s r W (Kd.C_below hr hBw) hc hC2 hc2 (GW.below hG hBw) h⟩
  have HBA := Aside0.mk hBA
  have hu := Tryz.underlying35
  have hu2 := Tryz.underlying37
  obtain ⟨m, hm⟩ : ∃ m, m = l1.length := ⟨_, rfl⟩
  rw [← hm] at hWA hblk HCM ⊢
  have c0 : WA.cell? ⟨w.heap.size, 0, none⟩ = some (.bool v1) := (blk_cell hblk 0).trans rfl
  have c1' : WA.cell? ⟨w.heap.size, 1, none⟩ = some (.slice A1 m c1) := (blk_cell hblk 1).trans rfl
  have c2 : WA.cell? ⟨w.heap.size, 2, none⟩ = some (.string b1) := (blk_cell hblk 2).trans rfl
  have c3 : WA.cell? ⟨w.heap.size, 3, none⟩ = some (.string s1) := (blk_cell hblk 3).trans rfl
  have c6 : Below WA.heap.size WA WA := Below.refl _ _
  clear hr hc hs hlow h3 hG h hBA hblk hm
  go_enter Tryz.func9, Tryz.ntmps9
  go_wp2
  go_region_held3 (fun w' => w'.cell? ⟨w.heap.size, 0, none⟩ = some (.bool v1) ∧ w'.cell? ⟨w.heap.size, 1, none⟩ = some (.slice A1 m c1) ∧ w'.cell? ⟨w.heap.size, 2, none⟩ = some (.string b1) ∧ w'.cell? ⟨w.heap.size, 3, none⟩ = some (.string s1)) (first | exact ⟨by with_reducible assumption, by with_reducible assumption, by with_reducible assumption, by with_reducible assumption⟩ | exact ⟨c0, c1', c2, c3⟩ | go_keep)
    (first | (go_at_call 8; (with_reducible refine (HP.out _ ?_).mono ?_); (first | (with_reducible assumption) | exact c6 | exact pw_below_drewN c6 1); rintro e w' ⟨hb, A2, cc, rfl, ⟨hC2, hR2⟩, hc2⟩; have k0 := hcell' hb (a := ⟨w.heap.size, 0, none⟩) (v := .bool v1) (by first | (with_reducible assumption) | exact c0); have k1 := hcell' hb (a := ⟨w.heap.size, 1, none⟩) (v := .slice A1 m c1) (by first | (with_reducible assumption) | exact c1'); have k2 := hcell' hb (a := ⟨w.heap.size, 2, none⟩) (v := .string b1) (by first | (with_reducible assumption) | exact c2); have k3 := hcell' hb (a := ⟨w.heap.size, 3, none⟩) (v := .string s1) (by first | (with_reducible assumption) | exact c3); have k5 : Below WA.heap.size WA w' := (show Below WA.heap.size WA _ by first | (with_reducible assumption) | exact pw_below_drewN c6 1).trans (hb.mono (show Below WA.heap.size WA _ by first | (with_reducible assumption) | exact pw_below_drewN c6 1).size)) | (go_at_call 11; (with_reducible refine (HCM.out _ _ _ ?_ ?_ ?_).mono ?_); (first | (with_reducible assumption) | exact pw_below_drewN k5 1); (first | exact hC2 | exact Kd.C_drew hC2); exact hc2; rintro e w'' ⟨rfl, hb9⟩; have z0 := hcell' hb9 (a := ⟨w.heap.size, 0, none⟩) (v := .bool v1) (by first | (with_reducible assumption) | exact k0); have z1 := hcell' hb9 (a := ⟨w.heap.size, 1, none⟩) (v := .slice A1 m c1) (by first | (with_reducible assumption) | exact k1); have z2 := hcell' hb9 (a := ⟨w.heap.size, 2, none⟩) (v := .string b1) (by first | (with_reducible assumption) | exact k2); have z3 := hcell' hb9 (a := ⟨w.heap.size, 3, none⟩) (v := .string s1) (by first | (with_reducible assumption) | exact k3); have k9 : Below WA.heap.size WA w'' := (show Below WA.heap.size WA _ by first | (with_reducible assumption) | exact pw_below_drewN k5 1).trans (hb9.mono (show Below WA.heap.size WA _ by first | (with_reducible assumption) | exact pw_below_drewN k5 1).size)))
  have HE : Aside0 (Below w.heap.size w _) := ⟨HBA.out.trans (k9.mono HBA.out.size)⟩
  clear k9 hb9
  go_wp2
  go_ret2
  exact ⟨rfl, by first | exact HE.out | exact pw_below_drewN HE.out _⟩
def fitT (s : ByteArray) : Bool := decide (s.size ≤ 300000) && (By.bl s).all (fun c => decide (c.toNat < 128)) && decide ((lkP s).1.length ≤ 3)
theorem fitT_of {s : ByteArray} (h : fitT s = true) : s.size ≤ 300000 ∧ (∀ c ∈ By.bl s, c.toNat < 128) ∧ (lkP s).1.length ≤ 3 := by
  unfold fitT at h
  rw [Bool.and_eq_true, Bool.and_eq_true, List.all_eq_true] at h
  exact ⟨of_decide_eq_true h.1.1, fun c hc => of_decide_eq_true (h.1.2 c hc), of_decide_eq_true h.2⟩
def impl_SemverCompareText.f (k : Nat) (a0 a1 : ByteArray) : Option (Int × Bool) := if (fitT a0 && fitT a1) = true then (SemverC k (lkP a0).1 (By.ofL (lkP a0).2) (lkP a1).1 (By.ofL (lkP a1).2)).bind fun t => some (t, true) else none
theorem SemverC.mono (l1 : List Int) (b1 : ByteArray) (l2 : List Int) (b2 : ByteArray) (k : Nat) : LeO (SemverC k l1 b1 l2 b2) (SemverC (k + 1) l1 b1 l2 b2) := by
  unfold SemverC
  exact LeO.ite (SemverB.mono _ _ _) (LeO.refl _)
theorem impl_SemverCompareText.mono : ∀ a0 a1 k, LeO (impl_SemverCompareText.f k a0 a1) (impl_SemverCompareText.f (k + 1) a0 a1) := by
  intro a0 a1 k
  unfold impl_SemverCompareText.f
  exact LeO.ite (LeO.bind (SemverC.mono _ _ _ _ _) (fun _ => LeO.refl _)) (LeO.refl _)
set_option maxRecDepth 100000 in
set_option maxHeartbeats 8000000 in
theorem impl_SemverCompareText.calls (k : Nat) (a0 a1 : ByteArray) (r1 : Int) (r2 : Bool) (w : World) (hG : GW w) (h : impl_SemverCompareText.f k a0 a1 = some (r1, r2)) :
    Calls Tryz.prog 7 #[.string a0, .string a1] w fun e w' => e = .returned (.tuple #[.int .i64 r1, .bool r2]) ∧ Below w.heap.size w w' := by
  unfold impl_SemverCompareText.f at h
  split at h
  · rename_i hf
    rw [Bool.and_eq_true] at hf
    obtain ⟨t, ht, hh⟩ := Option.bind_eq_some_iff.1 h
    simp only [Option.some.injEq, Prod.mk.injEq] at hh
    obtain ⟨rfl, rfl⟩ := hh
    obtain ⟨x1, x2, x3⟩ := fitT_of hf.1
    obtain ⟨y1, y2, y3⟩ := fitT_of hf.2
    have HP := Aside0.mk (st_Parse a0 w x1 x2 x3 hG)
    have HCS : Aside0 (∀ W A1 c1, Below w.heap.size w W → Kd.C Big.kd W A1 (lkP a0).1.length (lkP a0).1 → (lkP a0).1.length ≤ c1 → Calls Tryz.prog 9 #[.agg #[.bool (lkV a0), .slice A1 (lkP a0).1.length c1, .string (By.ofL (lkP a0).2), .string a0], .string a1] W fun e w' => e = .returned (.tuple #[.int .i64 t, .nilIface]) ∧ Below w.heap.size w w') := ⟨fun W A1 c1 hB hC1 hc1 => by
      refine (st_CompareStr k (lkV a0) A1 c1 (lkP a0).1 (By.ofL (lkP a0).2) a0 a1 t W hC1 hc1 y1 y2 y3 (GW.below hG hB) ht).mono ?_
      rintro e w' ⟨rfl, hb⟩
      exact ⟨rfl, hB.trans (hb.mono hB.size)⟩⟩
    clear h ht hf x1 x2 x3 y1 y2 y3 hG
    go_enter Tryz.func7, Tryz.ntmps7
    go_wp2_with (go_at_call 8; (with_reducible refine (HP.out).mono ?_))
    rintro e W1 ⟨hb1, A, c, rfl, ⟨hC, hR⟩, hc⟩
    have HCQ := Aside0.mk (HCS.out W1 A c hb1 hC hc)
    clear hb1 hC hR hc
    generalize (lkP a0).1.length = n at HCQ ⊢
    go_wp2_with (go_at_call 9; (with_reducible refine (HCQ.out).mono ?_))
    rintro e W2 ⟨rfl, hb2⟩
    have HB2 := Aside0.mk hb2
    clear hb2
    go_wp2
    go_quiet (fail)
    go_wp2
    go_ret2
    exact ⟨by first | rfl | (simp; done), by first | exact HB2.out | exact pw_below_drewN HB2.out _⟩
  · cases h

end Go.Proofs.YtgnkjjgbdlkidaaGreatDoor.Z
