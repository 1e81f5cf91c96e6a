-- Written by a program of this session (myprint.py).
import Derived.Test.YtajglnedoeboaaaDoorZ0
import Derived.Test.YtajglnedoeboaaaDoorZ4
import Derived.Test.YtajglnedoeboaaaDoorSsC
import Derived.Test.YtajglnedoeboaaaDoorShelf
import Derived.Lib.OthersKept
import Derived.Laws.Runes
import Derived.Laws.RangeAny
import Derived.Laws.RangeString
import Derived.Deep.RegionHeld3
import Derived.Test.YtajglnedoeboaaaDoorBg
import Derived.Test.YtajglnedoeboaaaDoorGe
namespace Go.Proofs.YtajglnedoeboaaaDoor.Z
open Go.Proofs.YtajglnedoeboaaaDoor.Gw
open Go.RowKit Go.Proofs.YtajglnedoeboaaaDoorW.PrintWords Go.Proofs.YtajglnedoeboaaaDoorW.PrintLast Go.Proofs.YtajglnedoeboaaaDoorW.PrintMore
attribute [local go_sem high] Go.Proofs.YtajglnedoeboaaaDoor.Ge.gtr_str
attribute [local go_sem] max2_int min2_int max_two min_two max_three min_three max_four min_four   -- for this text's walks alone
set_option linter.unusedVariables false
set_option linter.unusedSimpArgs false

-- PLUGGED semantic_ZZLikeParse: function 20 (a text of this session)
open Go.Proofs.YtajglnedoeboaaaDoor
/-- A like-SemVer text's numbers and the rest, behind a leading 'v': `cur` is what stands of a number. -/
def lkGo : List UInt8 → List UInt8 → List Int × List UInt8
  | cur, [] => (if cur = [] then [] else [Bv.decV cur], [])
  | cur, c :: l => if By.dg c then lkGo (cur ++ [c]) l else
      if c = 46 then ((if cur = [] then [] else [Bv.decV cur]) ++ (lkGo [] l).1, (lkGo [] l).2) else (if cur = [] then [] else [Bv.decV cur], c :: l)
def lkV (s : ByteArray) : Bool := Lib.hasPrefix s.data.toList [118]
def lkL (s : ByteArray) : ByteArray := ⟨(Lib.trimPrefix s.data.toList [118]).toArray⟩
def lkP (s : ByteArray) : List Int × List UInt8 := lkGo [] (By.bl (lkL s))
theorem lk_cvt (l : List UInt8) (h : l.all By.dg = true) (h0 : l ≠ []) : Ss.cvt (By.ofL l) = some (Bv.decV l) := by
  cases l with
  | nil => exact absurd rfl h0
  | cons c l =>
    have hc : By.dg c = true := by simp [List.all_cons] at h; exact h.1
    have h1 : c ≠ 45 := by rintro rfl; simp [By.dg] at hc
    have h2 : c ≠ 43 := by rintro rfl; simp [By.dg] at hc
    have hs : Ss.sgN (By.ofL (c :: l)) = 0 ∧ Ss.sgB (By.ofL (c :: l)) = false := by
      constructor
      · simp [Ss.sgN, By.bl_ofL, h1, h2]
        exact fun _ => ⟨h1, h2⟩
      · simp [Ss.sgB, By.bl_ofL, h1, h2]
        exact fun _ => h1
    unfold Ss.cvt
    rw [hs.1, hs.2, By.bl_ofL, List.drop_zero, if_pos ⟨h0, h⟩]
    rfl
theorem lk_enc (c : UInt8) (h : c.toNat < 128) : Utf8.encode (c.toNat : Int) = By.ofL [c] := by
  have hv : Utf8.valid (c.toNat : Int) = true := by simp [Utf8.valid]; omega
  unfold Utf8.encode
  simp only [hv, if_true, Int.toNat_natCast, h, if_pos]
  simp [By.ofL]
theorem lk_app (l m : List UInt8) : By.ofL l ++ By.ofL m = By.ofL (l ++ m) := by
  rw [ByteArray.ext_iff]
  simp [By.ofL]
/-- What holds of the walk at `t` bytes. -/
def LkR (L : List UInt8) (zs : List Int) (cur : List UInt8) (fb : Bool) (t : Nat) : Prop :=
  cur.length ≤ t ∧ zs.length ≤ t ∧ (if fb then lkGo [] L = (zs, cur ++ L.drop t) else cur.all By.dg = true ∧ lkGo [] L = (zs ++ (lkGo cur (L.drop t)).1, (lkGo cur (L.drop t)).2))
theorem LkR.more {L : List UInt8} {zs : List Int} {cur : List UInt8} {t : Nat} (h : LkR L zs cur true t) (ht : t < L.length) : LkR L zs (cur ++ [L[t]]) true (t + 1) := by
  obtain ⟨h1, h2, h3⟩ := h
  refine ⟨by simp; omega, by omega, ?_⟩
  rw [if_pos rfl] at h3 ⊢
  rw [h3, List.drop_eq_getElem_cons ht]
  simp
theorem LkR.dig {L : List UInt8} {zs : List Int} {cur : List UInt8} {t : Nat} (h : LkR L zs cur false t) (ht : t < L.length) (hd : By.dg L[t] = true) : LkR L zs (cur ++ [L[t]]) false (t + 1) := by
  obtain ⟨h1, h2, h3⟩ := h
  refine ⟨by simp; omega, by omega, ?_⟩
  rw [if_neg (by decide)] at h3 ⊢
  obtain ⟨h4, h5⟩ := h3
  rw [List.drop_eq_getElem_cons ht, lkGo, if_pos hd] at h5
  exact ⟨by simp [List.all_append, h4, hd], h5⟩
theorem LkR.dot {L : List UInt8} {zs : List Int} {cur : List UInt8} {t : Nat} (h : LkR L zs cur false t) (ht : t < L.length) (hd : L[t] = 46) : LkR L (zs ++ if cur = [] then [] else [Bv.decV cur]) [] false (t + 1) := by
  obtain ⟨h1, h2, h3⟩ := h
  refine ⟨by simp, ?_, ?_⟩
  · split <;> simp <;> omega
  rw [if_neg (by decide)] at h3 ⊢
  obtain ⟨h4, h5⟩ := h3
  rw [List.drop_eq_getElem_cons ht, lkGo, if_neg (by rw [hd]; decide), if_pos hd] at h5
  exact ⟨by simp, by rw [h5]; simp⟩
theorem LkR.build {L : List UInt8} {zs : List Int} {cur : List UInt8} {t : Nat} (h : LkR L zs cur false t) (ht : t < L.length) (hd : By.dg L[t] = false) (hp : L[t] ≠ 46) : LkR L (zs ++ if cur = [] then [] else [Bv.decV cur]) [L[t]] true (t + 1) := by
  obtain ⟨h1, h2, h3⟩ := h
  refine ⟨by simp, ?_, ?_⟩
  · split <;> simp <;> omega
  rw [if_neg (by decide)] at h3
  rw [if_pos rfl]
  obtain ⟨h4, h5⟩ := h3
  rw [List.drop_eq_getElem_cons ht, lkGo, if_neg (by rw [hd]; decide), if_neg hp] at h5
  rw [h5]
  simp
def LkP (s : ByteArray) (w : World) (e : Ending) (w' : World) : Prop := Below w.heap.size w w' ∧
  ∃ A c, e = .returned (.agg #[.bool (lkV s), .slice A (lkP s).1.length c, .string (By.ofL (lkP s).2), .string s]) ∧ Kd.C Big.kd w' A (lkP s).1.length (lkP s).1 ∧ (lkP s).1.length ≤ c
theorem lkL_bl (s : ByteArray) : By.bl (lkL s) = Lib.trimPrefix s.data.toList [118] := by
  unfold lkL
  exact By.bl_ofL _
theorem lkL_drop (s : ByteArray) : ∃ k, By.bl (lkL s) = (By.bl s).drop k := by
  rw [lkL_bl]
  unfold Lib.trimPrefix
  split
  · exact ⟨_, rfl⟩
  · exact ⟨0, by rw [List.drop_zero]; rfl⟩
theorem lkL_size (s : ByteArray) : (lkL s).size ≤ s.size := by
  obtain ⟨k, h⟩ := lkL_drop s
  rw [← By.bl_length, ← By.bl_length, h, List.length_drop]
  omega
theorem lkL_mem (s : ByteArray) (t : Nat) (h : t < (lkL s).size) : (lkL s)[t] ∈ By.bl s := by
  obtain ⟨k, hk⟩ := lkL_drop s
  have h1 : t < (By.bl (lkL s)).length := by rw [By.bl_length]; exact h
  have h3 : (By.bl (lkL s))[t] ∈ By.bl (lkL s) := List.getElem_mem h1
  have h4 : (By.bl (lkL s))[t] ∈ By.bl s := List.mem_of_mem_drop (i := k) (by rw [← hk]; exact h3)
  exact h4
theorem lk_infoP : (Tryd.prog.info? 82).map (fun i => (i.zero, i.size, i.bytes)) = some (some (.pointer none), 1, 8) := by kernel_rfl
def lkD (c : Int) : Bool := decide (48 ≤ c ∧ c ≤ 57)
theorem lkD_b (c : UInt8) : lkD (c.toNat : Int) = By.dg c := by
  unfold lkD By.dg
  rw [decide_eq_decide]
  omega
set_option maxHeartbeats 1000000 in
theorem lk_isDig (c : Int) (w : World) : Calls Tryd.prog 44 #[.int .i32 c] w fun e w' => e = .returned (.bool (lkD c)) ∧ w' = w := by
  unfold lkD
  by_cases h : 48 ≤ c
  · have h1 : decide ((48 : Int) ≤ c) = true := decide_eq_true (by omega)
    have h2 : decide (c ≤ 57) = decide (48 ≤ c ∧ c ≤ 57) := by
      rw [decide_eq_decide]
      omega
    generalize decide (48 ≤ c ∧ c ≤ 57) = b at h2
    go_enter Tryd.func44, Tryd.ntmps44
    go_wp2
    go_ret
    exact ⟨by first | rfl | (rw [← h2]; rfl) | (simp [h2]), rfl⟩
  · have h1 : decide ((48 : Int) ≤ c) = false := decide_eq_false (by omega)
    have h2 : decide (48 ≤ c ∧ c ≤ 57) = false := decide_eq_false (by omega)
    rw [h2]
    go_enter Tryd.func44, Tryd.ntmps44
    go_wp2
    go_ret
    exact ⟨rfl, rfl⟩
def LkC (g : Nat) (w : World) : Prop := ∃ v0 v1 v2 v3, w.heap[g]? = some (.cells #[v0, v1, v2, v3] 57 (0, 0))
def lkW (W : World) (g : Nat) (x : Bool) (A : Option Addr) (n cc : Nat) (y z : ByteArray) : World :=
  (((W.setCell ⟨g, 0, none⟩ (.bool x)).setCell ⟨g, 1, none⟩ (.slice A n cc)).setCell ⟨g, 2, none⟩ (.string y)).setCell ⟨g, 3, none⟩ (.string z)
theorem lk_end {w W : World} {g base : Nat} {v0 v1 v2 v3 : Value} {A : Option Addr} {cc : Nat} {zs : List Int} (x : Bool) (y z : ByteArray) (hC : W.heap[g]? = some (.cells #[v0, v1, v2, v3] 57 (0, 0)))
    (HO : Kd.R Big.kd 82 W base (fun _ => True) (.slice A zs.length cc) zs) (hb : g < base) (HB : Below g w W) :
    (lkW W g x A zs.length cc y z).heap[g]? = some (.cells #[.bool x, .slice A zs.length cc, .string y, .string z] 57 (0, 0)) ∧ Below g w (lkW W g x A zs.length cc y z) ∧ Kd.C Big.kd (lkW W g x A zs.length cc y z) A zs.length zs ∧ zs.length ≤ cc := by
  have h1 := Kd.R_far (p := ⟨g, 0, none⟩) (Kd.R_bound HO) (fun k hk e => by have h1 := hk.2.1; have e2 : k = g := e; omega) (.bool x)
  have h2 := Kd.R_far (p := ⟨g, 1, none⟩) h1 (fun k hk e => by have h1 := hk.2.1; have e2 : k = g := e; omega) (.slice A zs.length cc)
  have h3 := Kd.R_far (p := ⟨g, 2, none⟩) h2 (fun k hk e => by have h1 := hk.2.1; have e2 : k = g := e; omega) (.string y)
  have h4 := Kd.R_far (p := ⟨g, 3, none⟩) h3 (fun k hk e => by have h1 := hk.2.1; have e2 : k = g := e; omega) (.string z)
  obtain ⟨A', c', e, hc, hr⟩ := Kd.R_reads h4
  obtain ⟨rfl, -, rfl⟩ : A = A' ∧ zs.length = zs.length ∧ cc = c' := by
    simp only [Value.slice.injEq] at e
    exact ⟨e.1, rfl, e.2.2⟩
  refine ⟨?_, ?_, by first | exact hr | exact hc, by first | exact hc | exact hr⟩
  · have b1 := blk_put hC 0 (.bool x) rfl
    have b2 := blk_put b1 1 (.slice A zs.length cc) rfl
    have b3 := blk_put b2 2 (.string y) rfl
    exact blk_put b3 3 (.string z) rfl
  · exact ((((HB.setCell (p := ⟨g, 0, none⟩) (Nat.le_refl _) _).setCell (p := ⟨g, 1, none⟩) (Nat.le_refl _) _).setCell (p := ⟨g, 2, none⟩) (Nat.le_refl _) _).setCell (p := ⟨g, 3, none⟩) (Nat.le_refl _) _)
theorem LkR.done {L : List UInt8} {zs : List Int} {cur : List UInt8} {t : Nat} (h : LkR L zs cur true t) (ht : L.length ≤ t) : lkGo [] L = (zs, cur) := by
  have := h.2.2
  rw [if_pos rfl, List.drop_of_length_le ht, List.append_nil] at this
  exact this
theorem LkR.done2 {L : List UInt8} {zs : List Int} {cur : List UInt8} {t : Nat} (h : LkR L zs cur false t) (ht : L.length ≤ t) : lkGo [] L = (zs ++ if cur = [] then [] else [Bv.decV cur], []) := by
  have := h.2.2
  rw [if_neg (by decide), List.drop_of_length_le ht, lkGo] at this
  exact this.2
set_option maxRecDepth 100000 in
set_option maxHeartbeats 4000000 in
theorem like_parse (s : ByteArray) (w : World) (hs : s.size ≤ 300000) (hlow : ∀ c ∈ By.bl s, c.toNat < 128) (hG : GW w) : Calls Tryd.prog 31 #[.string s] w (LkP s w) := by
  obtain ⟨a, a2, hE, hN⟩ : ∃ a a2, ErrAt gEOF a w ∧ ErrAt gND a2 w := by
    first
    | (obtain ⟨a, a2, a3, h1, h2, h3⟩ := hG; exact ⟨a, a2, h1, h2⟩)
    | (obtain ⟨a, a2, h1, h2⟩ := hG; exact ⟨a, a2, h1, h2⟩)
  clear hG
  obtain ⟨n, hn⟩ : ∃ n, n = (lkL s).size := ⟨_, rfl⟩
  have hnl : n ≤ 300000 := by rw [hn]; exact Nat.le_trans (lkL_size s) hs
  have HLOW : Aside0 (∀ t (h : t < (lkL s).size), ((lkL s)[t]).toNat < 128) := ⟨fun t h => hlow _ (lkL_mem s t h)⟩
  have HP1 : Aside0 (∀ W, Calls Tryd.prog 42 #[.string s, .string ⟨#[118]⟩] W fun e w' => e = .returned (.bool (lkV s)) ∧ W = w') := ⟨fun W => (Tryd.strings_HasPrefix s _ W).mono fun e w' ⟨h1, h2⟩ => ⟨h1, h2.symm⟩⟩
  have HP2 : Aside0 (∀ W, Calls Tryd.prog 43 #[.string s, .string ⟨#[118]⟩] W fun e w' => e = .returned (.string (lkL s)) ∧ W = w') := ⟨fun W => (Tryd.strings_TrimPrefix s _ W).mono fun e w' ⟨h1, h2⟩ => ⟨h1, h2.symm⟩⟩
  have HG : Aside0 (ErrAt gEOF a w ∧ ErrAt gND a2 w) := ⟨hE, hN⟩
  have HRES : Aside0 (lkP s = lkGo [] (By.bl (lkL s))) := ⟨rfl⟩
  have HNN := Aside0.mk hn
  clear hE hN hs hlow
  unfold LkP
  generalize lkP s = res at HRES ⊢
  generalize lkV s = vv at HP1 ⊢
  generalize lkL s = L at HP2 HLOW HRES hn HNN
  clear hn
  go_enter Tryd.func31, Tryd.ntmps31
  go_wp2_with (go_at_call 42; (with_reducible refine (HP1.out _).mono ?_); rintro e W1 ⟨rfl, rfl⟩)
  go_wp2_with (go_at_call 43; (with_reducible refine (HP2.out _).mono ?_); rintro e W2 ⟨rfl, rfl⟩)
  go_wp2
  go_loopw [3, 5, 6] (fun v3 v5 v6 wr => ∃ (t : Nat) (zs : List Int) (cur : List UInt8) (fb : Bool), v5 = .string (By.ofL cur) ∧ v6 = .bool fb ∧ Aside0 (Kd.R Big.kd 82 wr (w.heap.size + 2) (fun _ => True) v3 zs) ∧ Aside0 (Below w.heap.size w wr) ∧ Aside0 (wr.heap[w.heap.size + 1]? = some (.stringIter L t)) ∧ Aside0 (LkC w.heap.size wr) ∧ Aside0 (LkR (By.bl L) zs cur fb t) ∧ t ≤ n) (fun v3 v5 v6 wr => n - wr.iterPos (w.heap.size + 1))
  case atStart => exact ⟨0, [], [], false, rfl, rfl, ⟨Kd.R_nil _ _ _ _ _⟩, ⟨((Below.refl _ _).alloc (Nat.le_refl _) _).alloc (by simp) _⟩, ⟨by
      have := World.iter_heap (w.alloc (.cells #[Value.bool false, Value.slice none 0 0, Value.string ⟨#[]⟩, Value.string ⟨#[]⟩] 57)) L 0
      simpa using this⟩, ⟨_, _, _, _, (((Below.refl (w.alloc (.cells #[Value.bool false, Value.slice none 0 0, Value.string ⟨#[]⟩, Value.string ⟨#[]⟩] 57)).heap.size _).alloc (Nat.le_refl _) _).block w.heap.size (by simp)).trans (blk_new w _)⟩, ⟨by simp, by simp, by rw [if_neg (by decide)]; exact ⟨by simp, by simp⟩⟩, Nat.zero_le _⟩
  case round =>
    obtain ⟨t, zs, cur, fb, rfl, rfl, HO, HB, HI, HC, HR, ht⟩ := hrel
    have HM : Aside0 (wr.iterPos (w.heap.size + 1) = t) := ⟨by simp only [World.iterPos]; rw [HI.out]⟩
    have hcl : cur.length ≤ 300000 := by have := HR.out.1; omega
    by_cases hlt : t < L.size
    · obtain ⟨c, hcq⟩ : ∃ c, c = L[t] := ⟨_, rfl⟩
      have hc : c.toNat < 128 := by rw [hcq]; exact HLOW.out t hlt
      obtain ⟨w2, hw2⟩ : ∃ w2, wr.iterAt (w.heap.size + 1) L (t + 1) = w2 := ⟨_, rfl⟩
      have hnx : ∀ ty, (Instr.next (.pointer (some ⟨w.heap.size + 1, 0, none⟩)) true ty).run Tryd.prog wr = .ok (.tuple #[.bool true, .int .i64 (t : Int), .int .i32 (c.toNat : Int)]) w2 := fun ty => by
        rw [← hw2, hcq]
        exact Lib.run_next_ascii_at wr (w.heap.size + 1) L t ty HI.out hlt (HLOW.out t hlt)
      have HI2 : Aside0 (w2.heap[w.heap.size + 1]? = some (.stringIter L (t + 1))) := ⟨by rw [← hw2]; exact Lib.iterAt_heap wr _ L t _ HI.out⟩
      have HB2 : Aside0 (Below w.heap.size w w2) := ⟨by rw [← hw2]; exact Lib.below_iterAt HB.out (Nat.le_succ _) _ _⟩
      have HC2 : Aside0 (LkC w.heap.size w2) := ⟨by
        obtain ⟨v0, v1, v2, v3, h⟩ := HC.out
        exact ⟨v0, v1, v2, v3, by rw [← hw2, Lib.iterAt_other _ _ _ _ _ (by omega)]; exact h⟩⟩
      have HO2 : Aside0 (Kd.R Big.kd 82 w2 (w.heap.size + 2) (fun _ => True) u3 zs) := ⟨Kd.R_mono (Kd.R_step (Kd.R_bound HO.out) (fun k hk hl => by rw [← hw2]; exact Lib.iterAt_other _ _ _ _ _ (by have := hk.2.1; omega))) (fun _ _ => trivial)⟩
      have HL : Aside0 (t < n) := ⟨by rw [HNN.out]; exact hlt⟩
      have htl : t < (By.bl L).length := by rw [By.bl_length]; exact hlt
      have hbc : (By.bl L)[t] = c := by rw [hcq]; rfl
      have henc := lk_enc c hc
      have hadd : By.ofL cur ++ By.ofL [c] = By.ofL (cur ++ [c]) := lk_app _ _
      have hz1 : (By.ofL cur).size ≤ 300000 := by rw [By.ofL_size]; exact hcl
      have hz2 : (By.ofL [c]).size = 1 := rfl
      have HM2 : Aside0 (w2.iterPos (w.heap.size + 1) = t + 1) := ⟨by simp only [World.iterPos]; rw [HI2.out]⟩
      cases fb with
      | true =>
        have HR2 : Aside0 (LkR (By.bl L) zs (cur ++ [c]) true (t + 1)) := ⟨by rw [← hbc]; exact HR.out.more htl⟩
        clear HO HB HI HC HR hcq hw2 htl hbc hlt hc
        go_wp2
        go_roundw
        case rel => exact ⟨t + 1, zs, cur ++ [c], true, by rw [← hadd, ← henc], rfl, HO2, HB2, HI2, HC2, HR2, HL.out⟩
        case measure =>
          have := HL.out
          rw [HM.out, HM2.out]
          omega
      | false =>
        have HFC : Aside0 (∀ W, Calls Tryd.prog 44 #[.int .i32 (c.toNat : Int)] W fun e w' => e = .returned (.bool (By.dg c)) ∧ W = w') := ⟨fun W => (lk_isDig (c.toNat : Int) W).mono fun e w' ⟨h1, h2⟩ => ⟨by rw [h1, lkD_b], h2.symm⟩⟩
        cases hd : By.dg c with
        | true =>
          have HR2 : Aside0 (LkR (By.bl L) zs (cur ++ [c]) false (t + 1)) := ⟨by rw [← hbc]; exact HR.out.dig htl (by rw [hbc]; exact hd)⟩
          rw [hd] at HFC
          clear HO HB HI HC HR hcq hw2 htl hbc hlt hc hd
          go_wp2_with (go_at_call 44; (with_reducible refine (HFC.out _).mono ?_); rintro e w' ⟨rfl, rfl⟩)
          go_roundw
          case rel => exact ⟨t + 1, zs, cur ++ [c], false, by first | rw [← hadd, ← henc] | rfl, rfl, HO2, HB2, HI2, HC2, HR2, HL.out⟩
          case measure =>
            have := HL.out
            rw [HM.out, HM2.out]
            omega
        | false =>
          rw [hd] at HFC
          have hG1 := Aside0.mk (And.intro HG.out.1 HG.out.2)
          have hdd : By.dg (By.bl L)[t] = false := by rw [hbc]; exact hd
          have HDOT : Aside0 (c = 46 → LkR (By.bl L) (zs ++ if cur = [] then [] else [Bv.decV cur]) [] false (t + 1)) := ⟨fun h => HR.out.dot htl (by rw [hbc]; exact h)⟩
          have HBLD : Aside0 (c ≠ 46 → LkR (By.bl L) (zs ++ if cur = [] then [] else [Bv.decV cur]) [c] true (t + 1)) := ⟨fun h => by have := HR.out.build htl hdd (by rw [hbc]; exact h); rw [hbc] at this; exact this⟩
          have HALL : Aside0 (cur.all By.dg = true ∧ zs.length ≤ t) := ⟨by have := HR.out.2.2; rw [if_neg (by decide)] at this; exact this.1, HR.out.2.1⟩
          have h46 : ((c.toNat : Int) == 46) = decide (c = 46) := by
            rw [Bool.eq_iff_iff, beq_iff_eq, decide_eq_true_eq, ← UInt8.toNat_inj]
            show (c.toNat : Int) = 46 ↔ c.toNat = 46
            omega
          cases cur with
          | nil =>
            have HDOT2 : Aside0 (c = 46 → LkR (By.bl L) zs [] false (t + 1)) := ⟨fun h => by have := HDOT.out h; rw [if_pos rfl, List.append_nil] at this; exact this⟩
            have HBLD2 : Aside0 (c ≠ 46 → LkR (By.bl L) zs [c] true (t + 1)) := ⟨fun h => by have := HBLD.out h; rw [if_pos rfl, List.append_nil] at this; exact this⟩
            have e0 : By.ofL [] = ⟨#[]⟩ := rfl
            rw [e0]
            clear HO HB HI HC HR hcq hw2 htl hbc hlt hc hd hdd HDOT HBLD hadd hz1
            by_cases hp : c = 46
            · have hq : ((c.toNat : Int) == 46) = true := by rw [h46]; exact decide_eq_true hp
              have HRF := Aside0.mk (HDOT2.out hp)
              clear hp h46
              go_wp2_with (go_at_call 44; (with_reducible refine (HFC.out _).mono ?_); rintro e w' ⟨rfl, rfl⟩)
              go_roundw
              case rel => exact ⟨t + 1, zs, [], false, rfl, rfl, HO2, HB2, HI2, HC2, HRF, HL.out⟩
              case measure =>
                have := HL.out
                rw [HM.out, HM2.out]
                omega
            · have hq : ((c.toNat : Int) == 46) = false := by rw [h46]; exact decide_eq_false hp
              have HRF := Aside0.mk (HBLD2.out hp)
              clear hp h46
              go_wp2_with (go_at_call 44; (with_reducible refine (HFC.out _).mono ?_); rintro e w' ⟨rfl, rfl⟩)
              go_roundw
              case rel => exact ⟨t + 1, zs, [c], true, by first | rfl | rw [henc], rfl, HO2, HB2, HI2, HC2, HRF, HL.out⟩
              case measure =>
                have := HL.out
                rw [HM.out, HM2.out]
                omega
          | cons x cu =>
            have hne : x :: cu ≠ [] := by simp
            have HCV : Aside0 (Ss.cvt (By.ofL (x :: cu)) = some (Bv.decV (x :: cu))) := ⟨lk_cvt _ HALL.out.1 hne⟩
            rw [if_neg hne] at HDOT HBLD
            have hl0 : (By.ofL (x :: cu)).toList = x :: cu := by rw [By.toList_bl, By.bl_ofL]
            have hl : ((By.ofL (x :: cu)).toList == []) = false := by rw [hl0]; rfl
            have hl2 : (By.ofL (x :: cu)).toList.isEmpty = false := by rw [hl0]; rfl
            generalize Bv.decV (x :: cu) = z0 at HCV HDOT HBLD
            have hxs : (By.ofL (x :: cu)).size ≤ 1000000 := by omega
            clear hadd hl0 hne hz1 hcl
            have hS : HALL = HALL := rfl
            generalize hSS : By.ofL (x :: cu) = S at HCV hl hl2 hxs ⊢
            have hE1 : ErrAt gEOF a w2 := HG.out.1.below HB2.out
            have hN1 : ErrAt gND a2 w2 := HG.out.2.below HB2.out
            have hBO : Below w2.heap.size w2 (w2.alloc (.cells #[.bool false, .slice none 0 0] Big.TI)) := (Below.refl _ _).alloc (Nat.le_refl _) _
            have hC := Aside0.mk (Ss.ss_SetString S w2.heap.size a a2 (w2.alloc (.cells #[.bool false, .slice none 0 0] Big.TI)) hxs (by simp) (blk_new w2 _) (hE1.below hBO) (hN1.below hBO) hE1.lt hN1.lt)
            have HBO := Aside0.mk hBO
            have HZL : Aside0 (w.heap.size + 1 < w2.heap.size) := ⟨(Array.getElem?_eq_some_iff.1 HI2.out).1⟩
            have HLZ : Aside0 (zs.length ≤ 300000) := ⟨by have := HALL.out.2; omega⟩
            clear hnl ht
            clear HO HB HI HC HR hcq hw2 htl hbc hlt hc hd hdd hE1 hN1 hBO hS hSS HALL hG1 hxs
            have HNXT : Aside0 (∃ cur2 fb2, (if c = 46 then (cur2 = [] ∧ fb2 = false) else (cur2 = [c] ∧ fb2 = true)) ∧ LkR (By.bl L) (zs ++ [z0]) cur2 fb2 (t + 1)) := ⟨by
              by_cases hp : c = 46
              · exact ⟨[], false, by rw [if_pos hp]; exact ⟨rfl, rfl⟩, HDOT.out hp⟩
              · exact ⟨[c], true, by rw [if_neg hp]; exact ⟨rfl, rfl⟩, HBLD.out hp⟩⟩
            go_wp2_with (go_at_call 44; (with_reducible refine (HFC.out _).mono ?_); rintro e w' ⟨rfl, rfl⟩)
            go_wp2_with (go_at_call 45; (with_reducible refine (hC.out).mono ?_))
            rintro e W3 ⟨hB3, h3⟩
            have HB3 : Aside0 (Below w2.heap.size w2 W3) := ⟨HBO.out.trans hB3⟩
            have HI3 : Aside0 (W3.heap[w.heap.size + 1]? = some (.stringIter L (t + 1))) := ⟨(HB3.out.block _ HZL.out).trans HI2.out⟩
            have HC3 : Aside0 (LkC w.heap.size W3) := ⟨by
              obtain ⟨v0, v1, v2, v3, h⟩ := HC2.out
              exact ⟨v0, v1, v2, v3, (HB3.out.block _ (by have := HZL.out; omega)).trans h⟩⟩
            have HB3w : Aside0 (Below w.heap.size w W3) := ⟨HB2.out.trans (HB3.out.mono (by have := HZL.out; omega))⟩
            clear hB3 hC
            rcases h3 with ⟨hn, rfl⟩ | ⟨z, hz, rfl, hO⟩
            · exfalso
              rw [HCV.out] at hn
              cases hn
            · obtain rfl : z0 = z := by rw [HCV.out] at hz; exact Option.some.inj hz
              have hlt := Kd.R_lt HO2.out
              have HO1 : Aside0 (Kd.R Big.kd 82 W3 (w.heap.size + 2) (fun _ => True) u3 zs) := ⟨Kd.R_below HO2.out HB3.out⟩
              have HM3 : Aside0 (Big.kd.M W3 (w.heap.size + 2) (fun k => True ∧ some k ≠ u3.ownBlock) z0 [.pointer (some ⟨w2.heap.size, 0, none⟩)]) := ⟨⟨_, rfl, Big.Own.mono (fun k hk => ⟨trivial, fun e => by
                have h1 := hlt k e.symm
                have h2 := hk.2.1
                omega⟩) (Big.Own.lower (by have := HZL.out; omega) hO.bound)⟩⟩
              have HSZ : Aside0 (w.heap.size + 2 ≤ W3.heap.size) := ⟨by have := HZL.out; have := HB3.out.size; omega⟩
              clear hz hO hlt
              go_wp2_with ((with_reducible refine gate_builtin (b := .append) (xs := #[.tmp 43, .tmp 45]) rfl ?_); at_builtin; refine Kd.R_append Big.kd (w0 := W3) (w.heap.size + 2) rfl (.tmp 43) (.tmp 45) 54 82 (.pointer none) 8 rfl Tryd.underlying54 lk_infoP rfl (by decide) (by omega) u3 zs z0 [.pointer (some ⟨w2.heap.size, 0, none⟩)] (fun _ => True) (fun k => True ∧ some k ≠ u3.ownBlock) rfl (by first | rfl | (go_simp; done)) HM3.out (fun _ hk => hk) (fun _ _ => trivial) HO1.out (Below.refl _ _) HSZ.out (by have := HLZ.out; simp; omega) ?_)
              intro v1 W4 ho hb2 hg hat
              have HO4 := Aside0.mk ho
              have HI4 : Aside0 (W4.heap[w.heap.size + 1]? = some (.stringIter L (t + 1))) := ⟨(hb2.block _ (by omega)).trans HI3.out⟩
              have HC4 : Aside0 (LkC w.heap.size W4) := ⟨by
                obtain ⟨v0, v1, v2, v3, h⟩ := HC3.out
                exact ⟨v0, v1, v2, v3, (hb2.block _ (by omega)).trans h⟩⟩
              have HB4 : Aside0 (Below w.heap.size w W4) := ⟨HB3w.out.trans (hb2.mono (by omega))⟩
              have HM4 : Aside0 (W4.iterPos (w.heap.size + 1) = t + 1) := ⟨by simp only [World.iterPos]; rw [HI4.out]⟩
              clear ho hb2 hg hat HM3 HO1
              by_cases hp : c = 46
              · have hq : ((c.toNat : Int) == 46) = true := by rw [h46]; exact decide_eq_true hp
                have HRF := Aside0.mk (HDOT.out hp)
                clear hp h46
                go_wp2
                go_roundw
                case rel => exact ⟨t + 1, zs ++ [z0], [], false, rfl, rfl, HO4, HB4, HI4, HC4, HRF, HL.out⟩
                case measure =>
                  have := HL.out
                  rw [HM.out, HM4.out]
                  omega
              · have hq : ((c.toNat : Int) == 46) = false := by rw [h46]; exact decide_eq_false hp
                have HRF := Aside0.mk (HBLD.out hp)
                clear hp h46
                go_wp2
                go_roundw
                case rel => exact ⟨t + 1, zs ++ [z0], [c], true, by first | rfl | rw [henc], rfl, HO4, HB4, HI4, HC4, HRF, HL.out⟩
                case measure =>
                  have := HL.out
                  rw [HM.out, HM4.out]
                  omega
    · obtain rfl : t = n := by rw [HNN.out] at ht ⊢; omega
      have hnx : ∀ ty, (Instr.next (.pointer (some ⟨w.heap.size + 1, 0, none⟩)) true ty).run Tryd.prog wr = _ := fun ty => Lib.run_next_end_at wr (w.heap.size + 1) L t ty HI.out (by omega)
      obtain ⟨v0, v1, v2, v3, hC0⟩ := HC.out
      have g0 : wr.cell? ⟨w.heap.size, 0, none⟩ = some v0 := (blk_cell hC0 0).trans rfl
      have g1 : wr.cell? ⟨w.heap.size, 1, none⟩ = some v1 := (blk_cell hC0 1).trans rfl
      have g2 : wr.cell? ⟨w.heap.size, 2, none⟩ = some v2 := (blk_cell hC0 2).trans rfl
      have g3 : wr.cell? ⟨w.heap.size, 3, none⟩ = some v3 := (blk_cell hC0 3).trans rfl
      have f0 : wr.frozen? ⟨w.heap.size, 0, none⟩ = false := blk_frozen hC0 0
      have f1 : wr.frozen? ⟨w.heap.size, 1, none⟩ = false := blk_frozen hC0 1
      have f2 : wr.frozen? ⟨w.heap.size, 2, none⟩ = false := blk_frozen hC0 2
      have f3 : wr.frozen? ⟨w.heap.size, 3, none⟩ = false := blk_frozen hC0 3
      cases fb with
      | true =>
        obtain ⟨A, cc, rfl, hcc, hrd⟩ := Kd.R_reads HO.out
        obtain ⟨b4, b5, b6, b7⟩ := lk_end vv (By.ofL cur) s hC0 HO.out (by omega) HB.out
        have HF : Aside0 (res = (zs, cur)) := ⟨by rw [HRES.out]; exact HR.out.done (by rw [By.bl_length]; omega)⟩
        obtain rfl := HF.out
        have p0 := (blk_cell b4 0).trans rfl
        have p1 := (blk_cell b4 1).trans rfl
        have p2 := (blk_cell b4 2).trans rfl
        have p3 := (blk_cell b4 3).trans rfl
        simp only [lkW] at p0 p1 p2 p3
        have HE := Aside0.mk (And.intro b5 (And.intro b6 b7))
        clear hlt hC0 b4 b5 b6 b7 HF hcc hrd
        go_wp2
        exact bodyPost_ret (v := .agg #[.bool vv, .slice A zs.length cc, .string (By.ofL cur), .string s]) (by simp [results, Tryd.results31, go_sem, p0, p1, p2, p3]) rfl ⟨HE.out.1, A, cc, rfl, HE.out.2.1, HE.out.2.2⟩
      | false =>
        have HALL : Aside0 (cur.all By.dg = true ∧ zs.length ≤ t) := ⟨by have := HR.out.2.2; rw [if_neg (by decide)] at this; exact this.1, HR.out.2.1⟩
        have HDN : Aside0 (res = (zs ++ if cur = [] then [] else [Bv.decV cur], [])) := ⟨by rw [HRES.out]; exact HR.out.done2 (by rw [By.bl_length]; omega)⟩
        cases cur with
        | nil =>
          obtain ⟨A, cc, rfl, hcc, hrd⟩ := Kd.R_reads HO.out
          obtain ⟨b4, b5, b6, b7⟩ := lk_end vv ⟨#[]⟩ s hC0 HO.out (by omega) HB.out
          have HF : Aside0 (res = (zs, [])) := ⟨by rw [HDN.out, if_pos rfl, List.append_nil]⟩
          obtain rfl := HF.out
          have p0 := (blk_cell b4 0).trans rfl
          have p1 := (blk_cell b4 1).trans rfl
          have p2 := (blk_cell b4 2).trans rfl
          have p3 := (blk_cell b4 3).trans rfl
          simp only [lkW] at p0 p1 p2 p3
          have HE := Aside0.mk (And.intro b5 (And.intro b6 b7))
          have e0 : By.ofL [] = ⟨#[]⟩ := rfl
          rw [e0]
          clear hlt hC0 b4 b5 b6 b7 HF hcc hrd
          go_wp2
          exact bodyPost_ret (v := .agg #[.bool vv, .slice A zs.length cc, .string ⟨#[]⟩, .string s]) (by simp [results, Tryd.results31, go_sem, p0, p1, p2, p3]) rfl ⟨HE.out.1, A, cc, rfl, HE.out.2.1, HE.out.2.2⟩
        | cons x cu =>
          have hne : x :: cu ≠ [] := by simp
          have HCV : Aside0 (Ss.cvt (By.ofL (x :: cu)) = some (Bv.decV (x :: cu))) := ⟨lk_cvt _ HALL.out.1 hne⟩
          rw [if_neg hne] at HDN
          have hl0 : (By.ofL (x :: cu)).toList = x :: cu := by rw [By.toList_bl, By.bl_ofL]
          have hl : ((By.ofL (x :: cu)).toList == []) = false := by rw [hl0]; rfl
          have hl2 : (By.ofL (x :: cu)).toList.isEmpty = false := by rw [hl0]; rfl
          have hxs : (By.ofL (x :: cu)).size ≤ 1000000 := by rw [By.ofL_size]; omega
          generalize Bv.decV (x :: cu) = z0 at HCV HDN
          clear hl0 hne hcl
          generalize hSS : By.ofL (x :: cu) = S at HCV hl hl2 hxs ⊢
          have hE1 : ErrAt gEOF a wr := HG.out.1.below HB.out
          have hN1 : ErrAt gND a2 wr := HG.out.2.below HB.out
          have hBO : Below wr.heap.size wr (wr.alloc (.cells #[.bool false, .slice none 0 0] Big.TI)) := (Below.refl _ _).alloc (Nat.le_refl _) _
          have hC := Aside0.mk (Ss.ss_SetString S wr.heap.size a a2 (wr.alloc (.cells #[.bool false, .slice none 0 0] Big.TI)) hxs (by simp) (blk_new wr _) (hE1.below hBO) (hN1.below hBO) hE1.lt hN1.lt)
          have HBO := Aside0.mk hBO
          have HZL : Aside0 (w.heap.size + 1 < wr.heap.size) := ⟨(Array.getElem?_eq_some_iff.1 HI.out).1⟩
          have HLZ : Aside0 (zs.length ≤ 300000) := ⟨by have := HALL.out.2; omega⟩
          have HC0 := Aside0.mk hC0
          clear hE1 hN1 hBO hSS HALL hxs hnl ht g0 g1 g2 g3 f0 f1 f2 f3 hC0 hlt HC HR
          go_wp2_with (go_at_call 45; (with_reducible refine (hC.out).mono ?_))
          rintro e W3 ⟨hB3, h3⟩
          have HB3 : Aside0 (Below wr.heap.size wr W3) := ⟨HBO.out.trans hB3⟩
          have HC3 := Aside0.mk ((HB3.out.block w.heap.size (by have := HZL.out; omega)).trans HC0.out)
          have HB3w : Aside0 (Below w.heap.size w W3) := ⟨HB.out.trans (HB3.out.mono (by have := HZL.out; omega))⟩
          clear hB3 hC
          rcases h3 with ⟨hn, rfl⟩ | ⟨z, hz, rfl, hO⟩
          · exfalso
            rw [HCV.out] at hn
            cases hn
          · obtain rfl : z0 = z := by rw [HCV.out] at hz; exact Option.some.inj hz
            have hlt := Kd.R_lt HO.out
            have HO1 : Aside0 (Kd.R Big.kd 82 W3 (w.heap.size + 2) (fun _ => True) u3 zs) := ⟨Kd.R_below HO.out HB3.out⟩
            have HM3 : Aside0 (Big.kd.M W3 (w.heap.size + 2) (fun k => True ∧ some k ≠ u3.ownBlock) z0 [.pointer (some ⟨wr.heap.size, 0, none⟩)]) := ⟨⟨_, rfl, Big.Own.mono (fun k hk => ⟨trivial, fun e => by
              have h1 := hlt k e.symm
              have h2 := hk.2.1
              omega⟩) (Big.Own.lower (by have := HZL.out; omega) hO.bound)⟩⟩
            have HSZ : Aside0 (w.heap.size + 2 ≤ W3.heap.size) := ⟨by have := HZL.out; have := HB3.out.size; omega⟩
            clear hz hO hlt
            go_wp2_with ((with_reducible refine gate_builtin (b := .append) (xs := #[.tmp 63, .tmp 65]) rfl ?_); at_builtin; refine Kd.R_append Big.kd (w0 := W3) (w.heap.size + 2) rfl (.tmp 63) (.tmp 65) 54 82 (.pointer none) 8 rfl Tryd.underlying54 lk_infoP rfl (by decide) (by omega) u3 zs z0 [.pointer (some ⟨wr.heap.size, 0, none⟩)] (fun _ => True) (fun k => True ∧ some k ≠ u3.ownBlock) rfl (by first | rfl | (go_simp; done)) HM3.out (fun _ hk => hk) (fun _ _ => trivial) HO1.out (Below.refl _ _) HSZ.out (by have := HLZ.out; simp; omega) ?_)
            intro v1 W4 ho hb2 hg hat
            have hC4 := (hb2.block w.heap.size (by omega)).trans HC3.out
            have hB4 : Below w.heap.size w W4 := HB3w.out.trans (hb2.mono (by omega))
            obtain ⟨zr, hzr⟩ : ∃ zr, zr = zs ++ [z0] := ⟨_, rfl⟩
            rw [← hzr] at ho HDN
            obtain ⟨A, cc, rfl, hcc, hrd⟩ := Kd.R_reads ho
            obtain ⟨b4, b5, b6, b7⟩ := lk_end vv ⟨#[]⟩ s hC4 ho (by omega) hB4
            obtain rfl := HDN.out
            have g0 := (blk_cell hC4 0).trans rfl
            have g1 := (blk_cell hC4 1).trans rfl
            have g2 := (blk_cell hC4 2).trans rfl
            have g3 := (blk_cell hC4 3).trans rfl
            have f0 : W4.frozen? ⟨w.heap.size, 0, none⟩ = false := blk_frozen hC4 0
            have f1 : W4.frozen? ⟨w.heap.size, 1, none⟩ = false := blk_frozen hC4 1
            have f2 : W4.frozen? ⟨w.heap.size, 2, none⟩ = false := blk_frozen hC4 2
            have f3 : W4.frozen? ⟨w.heap.size, 3, none⟩ = false := blk_frozen hC4 3
            have p0 := (blk_cell b4 0).trans rfl
            have p1 := (blk_cell b4 1).trans rfl
            have p2 := (blk_cell b4 2).trans rfl
            have p3 := (blk_cell b4 3).trans rfl
            simp only [lkW] at p0 p1 p2 p3
            have HE := Aside0.mk (And.intro b5 (And.intro b6 b7))
            clear hC4 hB4 ho hb2 hg hat b4 b5 b6 b7 hcc hrd hzr HM3 HO1
            go_wp2
            exact bodyPost_ret (v := .agg #[.bool vv, .slice A zr.length cc, .string ⟨#[]⟩, .string s]) (by simp [results, Tryd.results31, go_sem, p0, p1, p2, p3]) rfl ⟨HE.out.1, A, cc, rfl, HE.out.2.1, HE.out.2.2⟩

theorem lk_small : ∀ (l cur : List UInt8), cur.all By.dg = true → (∀ z ∈ (lkGo cur l).1, z.natAbs ≤ Ss.tp (cur.length + l.length)) ∧ (lkGo cur l).1.length ≤ l.length + 1
  | [], cur, h => by
    rw [lkGo]
    by_cases hc : cur = []
    · rw [if_pos hc]
      exact ⟨fun z hz => by simp at hz, by simp⟩
    · rw [if_neg hc]
      refine ⟨fun z hz => ?_, by simp⟩
      have e : z = Bv.decV cur := by simpa using hz
      obtain ⟨h1, h2⟩ := Bv.decV_bounds cur h
      have h3 : ((Ss.tp cur.length : Nat) : Int) = 10 ^ cur.length := by unfold Ss.tp; rw [Int.natCast_pow]; rfl
      rw [e]
      show (Bv.decV cur).natAbs ≤ Ss.tp cur.length
      omega
  | c :: l, cur, h => by
    have head : ∀ z ∈ (if cur = [] then [] else [Bv.decV cur]), z.natAbs ≤ Ss.tp (cur.length + (c :: l).length) := by
      intro z hz
      by_cases hc : cur = []
      · rw [if_pos hc] at hz
        simp at hz
      · rw [if_neg hc] at hz
        have e : z = Bv.decV cur := by simpa using hz
        obtain ⟨h1, h2⟩ := Bv.decV_bounds cur h
        have h3 : ((Ss.tp cur.length : Nat) : Int) = 10 ^ cur.length := by unfold Ss.tp; rw [Int.natCast_pow]; rfl
        have h4 := Ss.tp_le (show cur.length ≤ cur.length + (c :: l).length by omega)
        rw [e]
        omega
    have hlen : (if cur = [] then ([] : List Int) else [Bv.decV cur]).length ≤ 1 := by split <;> simp
    rw [lkGo]
    by_cases hd : By.dg c = true
    · obtain ⟨i1, i2⟩ := lk_small l (cur ++ [c]) (by simp [List.all_append, h, hd])
      rw [if_pos hd]
      refine ⟨fun z hz => ?_, by simp; omega⟩
      have := i1 z hz
      have e : (cur ++ [c]).length + l.length = cur.length + (c :: l).length := by simp; omega
      rwa [e] at this
    · rw [if_neg hd]
      by_cases hp : c = 46
      · obtain ⟨i1, i2⟩ := lk_small l [] rfl
        rw [if_pos hp]
        refine ⟨fun z hz => ?_, ?_⟩
        · rcases List.mem_append.1 hz with hz | hz
          · exact head z hz
          · exact Nat.le_trans (i1 z hz) (Ss.tp_le (by simp; omega))
        · rw [List.length_append]
          simp
          omega
      · rw [if_neg hp]
        exact ⟨head, by simp; omega⟩
/-- The world behind a struct's four stores. -/
def l4W (W : World) (g : Nat) (x0 x1 x2 x3 : Value) : World := (((W.setCell ⟨g, 0, none⟩ x0).setCell ⟨g, 1, none⟩ x1).setCell ⟨g, 2, none⟩ x2).setCell ⟨g, 3, none⟩ x3
theorem l4_end {α : Type} (d : Kd α) (b0 : Nat) {w W : World} {g base e t : Nat} {v0 v1 v2 v3 : Value} {v : Value} {xs : List α} (x0 x1 x2 x3 : Value) (hC : W.heap[g]? = some (.cells #[v0, v1, v2, v3] t (0, 0)))
    (HO : Kd.R d e W base (fun _ => True) v xs) (hb : g < base) (hb0 : b0 ≤ g) (HB : Below b0 w W) :
    (l4W W g x0 x1 x2 x3).heap[g]? = some (.cells #[x0, x1, x2, x3] t (0, 0)) ∧ Below b0 w (l4W W g x0 x1 x2 x3) ∧ Kd.R d e (l4W W g x0 x1 x2 x3) g (fun _ => True) v xs := by
  have h1 := Kd.R_far (p := ⟨g, 0, none⟩) (Kd.R_bound HO) (fun k hk e => by have h1 := hk.2.1; have e2 : k = g := e; omega) x0
  have h2 := Kd.R_far (p := ⟨g, 1, none⟩) h1 (fun k hk e => by have h1 := hk.2.1; have e2 : k = g := e; omega) x1
  have h3 := Kd.R_far (p := ⟨g, 2, none⟩) h2 (fun k hk e => by have h1 := hk.2.1; have e2 : k = g := e; omega) x2
  have h4 := Kd.R_far (p := ⟨g, 3, none⟩) h3 (fun k hk e => by have h1 := hk.2.1; have e2 : k = g := e; omega) x3
  refine ⟨?_, ?_, Kd.R_lower (Kd.R_mono h4 (fun _ _ => trivial)) (Nat.le_of_lt hb)⟩
  · have b1 := blk_put hC 0 x0 rfl
    have b2 := blk_put b1 1 x1 rfl
    have b3 := blk_put b2 2 x2 rfl
    exact blk_put b3 3 x3 rfl
  · exact ((((HB.setCell (p := ⟨g, 0, none⟩) hb0 _).setCell (p := ⟨g, 1, none⟩) hb0 _).setCell (p := ⟨g, 2, none⟩) hb0 _).setCell (p := ⟨g, 3, none⟩) hb0 _)
theorem hcell {W W' : World} {a : Addr} {v : Value} (hb : Below W.heap.size W W') (h : W.cell? a = some v) : W'.cell? a = some v := (hb.cell (World.block_lt_of_cell? W _ h)).trans h
structure LkT (vv : Bool) (b s : ByteArray) (xs : List S77) (w : World) (e : Ending) (w' : World) : Prop where
  h : ∃ v, e = .returned (.agg #[.bool vv, v, .string b, .string s]) ∧ Kd.R k77 77 w' w.heap.size (fun _ => True) v xs ∧ Below w.heap.size w w'
set_option maxRecDepth 100000 in
set_option maxHeartbeats 4000000 in
theorem like_told (vv : Bool) (A : Option Addr) (c : Nat) (zs : List Int) (b s : ByteArray) (n : Nat) (w : World) (hr : Kd.C Big.kd w A zs.length zs) (hc : zs.length ≤ c) (hn : n ≤ 1000000) (hz : ∀ z ∈ zs, z.natAbs ≤ Ss.tp n) (hl : zs.length ≤ 1000000) :
    Calls Tryd.prog 30 #[.agg #[.bool vv, .slice A zs.length c, .string b, .string s]] w fun e w' => ∃ v, e = .returned (.agg #[.bool vv, v, .string b, .string s]) ∧ Kd.R k77 77 w' w.heap.size (fun _ => True) v (zs.map plS) ∧ Below w.heap.size w w' := by
  obtain ⟨WA, hWA⟩ : ∃ WA, WA = (w.alloc (.cells #[.bool vv, .slice A zs.length c, .string b, .string s] 57)).alloc (.cells #[.bool false, .slice none 0 0, .string ⟨#[]⟩, .string ⟨#[]⟩] 46) := ⟨_, rfl⟩
  have e1 : (w.alloc (.cells #[.bool vv, .slice A zs.length c, .string b, .string s] 57)).heap.size = w.heap.size + 1 := by simp
  have H0 : Aside0 (WA.heap[w.heap.size]? = some (.cells #[.bool vv, .slice A zs.length c, .string b, .string s] 57 (0, 0))) := ⟨by
    rw [hWA]
    exact (((Below.refl _ (w.alloc (.cells #[.bool vv, .slice A zs.length c, .string b, .string s] 57))).alloc (Nat.le_refl _) _).block w.heap.size (by simp)).trans (blk_new w _)⟩
  have H1 : Aside0 (WA.heap[w.heap.size + 1]? = some (.cells #[.bool false, .slice none 0 0, .string ⟨#[]⟩, .string ⟨#[]⟩] 46 (0, 0))) := ⟨by
    rw [hWA, ← e1]
    exact blk_new _ _⟩
  have HQ : Aside0 (∀ W, Below w.heap.size w W → Calls Tryd.prog 41 #[.slice A zs.length c] W fun e w' => ∃ v, e = .returned v ∧ Kd.R k77 77 w' W.heap.size (fun _ => True) v (zs.map plS) ∧ Below W.heap.size W w') := ⟨fun W hb => big_zzPlains A c zs n W (Kd.C_below hr hb) hc hn hz hl⟩
  obtain ⟨m, hm⟩ : ∃ m, m = zs.length := ⟨_, rfl⟩
  rw [← hm] at hWA H0 HQ ⊢
  obtain ⟨ps, hps⟩ : ∃ ps, ps = zs.map plS := ⟨_, rfl⟩
  rw [← hps] at HQ ⊢
  clear hr hc hn hz hl hm e1 hps
  go_enter Tryd.func30, Tryd.ntmps30
  go_wp2
  rw [← hWA]
  have c0 := (blk_cell H0.out 0).trans rfl
  have c1 := (blk_cell H0.out 1).trans rfl
  have c2 := (blk_cell H0.out 2).trans rfl
  have c3 := (blk_cell H0.out 3).trans rfl
  have c4 := H1.out
  have c5 : w.heap.size + 1 < WA.heap.size := (Array.getElem?_eq_some_iff.1 H1.out).1
  have c6 : Below w.heap.size w WA := by rw [hWA]; exact ((Below.refl _ w).alloc (Nat.le_refl _) _).alloc (by simp) _
  clear hWA H0 H1
  go_region_held3 (fun w' => w'.cell? ⟨w.heap.size, 0, none⟩ = some (.bool vv) ∧ w'.cell? ⟨w.heap.size, 1, none⟩ = some (.slice A m c) ∧ w'.cell? ⟨w.heap.size, 2, none⟩ = some (.string b) ∧ w'.cell? ⟨w.heap.size, 3, none⟩ = some (.string s)) (first | exact ⟨by with_reducible assumption, by with_reducible assumption, by with_reducible assumption, by with_reducible assumption⟩ | exact ⟨c0, c1, c2, c3⟩ | go_keep)
    (first | (go_at_call 41; refine (HQ.out _ ?_).mono ?_; (first | (with_reducible assumption) | exact c6 | exact below_drew c6); rintro e w' ⟨v, rfl, hown, hb⟩; obtain ⟨A1, n1, rfl, hcl, hrd⟩ := Kd.R_reads hown; have k0 := hcell hb (a := ⟨w.heap.size, 0, none⟩) (v := .bool vv) (by first | (with_reducible assumption) | exact c0); have k1 := hcell hb (a := ⟨w.heap.size, 1, none⟩) (v := .slice A m c) (by first | (with_reducible assumption) | exact c1); have k2 := hcell hb (a := ⟨w.heap.size, 2, none⟩) (v := .string b) (by first | (with_reducible assumption) | exact c2); have k3 := hcell hb (a := ⟨w.heap.size, 3, none⟩) (v := .string s) (by first | (with_reducible assumption) | exact c3); have k4 := blk_below (g := w.heap.size + 1) (o := .cells #[.bool false, .slice none 0 0, .string ⟨#[]⟩, .string ⟨#[]⟩] 46 (0, 0)) (by first | (with_reducible assumption) | exact blk_drew c4) hb; have q0 := (blk_cell k4 0).trans rfl; have q1 := (blk_cell k4 1).trans rfl; have q2 := (blk_cell k4 2).trans rfl; have q3 := (blk_cell k4 3).trans rfl; have f0 := blk_frozen k4 0; have f1 := blk_frozen k4 1; have f2 := blk_frozen k4 2; have f3 := blk_frozen k4 3; have k5 : Below w.heap.size w w' := (show Below w.heap.size w _ by first | (with_reducible assumption) | exact below_drew c6).trans (hb.mono (show Below w.heap.size w _ by first | (with_reducible assumption) | exact below_drew c6).size)))
  obtain ⟨e1, e2, e3⟩ := l4_end _ w.heap.size (.bool vv) (.slice A1 ps.length n1) (.string b) (.string s) k4 hown c5 (Nat.le_succ _) k5
  have p0 := (blk_cell e1 0).trans rfl
  have p1 := (blk_cell e1 1).trans rfl
  have p2 := (blk_cell e1 2).trans rfl
  have p3 := (blk_cell e1 3).trans rfl
  have HE := Aside0.mk (And.intro e2 (Kd.R_lower e3 (Nat.le_succ w.heap.size)))
  unfold l4W at p0 p1 p2 p3 HE
  clear hown hcl hrd hb k0 k1 k2 k3 k4 k5 e1 e2 e3 c0 c1 c2 c3 c4 c5 c6 HQ
  go_wp2
  exact bodyPost_ret (v := .agg #[.bool vv, .slice A1 ps.length n1, .string b, .string s]) (by simp [results, Tryd.results30, go_sem, p0, p1, p2, p3]) rfl ⟨_, rfl, HE.out.2, HE.out.1⟩
set_option maxRecDepth 100000 in
set_option maxHeartbeats 4000000 in
theorem like_zz (s : ByteArray) (w : World) (hs : s.size ≤ 300000) (hlow : ∀ c ∈ By.bl s, c.toNat < 128) (hG : GW w) :
    Calls Tryd.prog 20 #[.string s] w fun e w' => ∃ v, e = .returned (.agg #[.bool (lkV s), v, .string (By.ofL (lkP s).2), .string s]) ∧ Kd.R k77 77 w' w.heap.size (fun _ => True) v ((lkP s).1.map plS) ∧ Below w.heap.size w w' := by
  obtain ⟨WA, hWA⟩ : ∃ WA, w.alloc (.cells #[.bool false, .slice none 0 0, .string ⟨#[]⟩, .string ⟨#[]⟩] 46) = WA := ⟨_, rfl⟩
  have hBA : Below w.heap.size w WA := by rw [← hWA]; exact (Below.refl _ _).alloc (Nat.le_refl _) _
  have H1 : WA.heap[w.heap.size]? = some (.cells #[.bool false, .slice none 0 0, .string ⟨#[]⟩, .string ⟨#[]⟩] 46 (0, 0)) := by rw [← hWA]; exact blk_new w _
  have hlt : w.heap.size < WA.heap.size := (Array.getElem?_eq_some_iff.1 H1).1
  have HP := Aside0.mk (like_parse s WA hs hlow (GW.below hG hBA))
  have HBL := Aside0.mk H1
  have HLT := Aside0.mk hlt
  have HBA := Aside0.mk hBA
  obtain ⟨q1, q2⟩ := lk_small (By.bl (lkL s)) [] rfl
  have hls := lkL_size s
  rw [By.bl_length] at q1 q2
  have HZ : Aside0 ((∀ z ∈ (lkP s).1, z.natAbs ≤ Ss.tp 300000) ∧ (lkP s).1.length ≤ 1000000) := ⟨fun z hz => Nat.le_trans (q1 z hz) (Ss.tp_le (by show 0 + _ ≤ _; omega)), by show (lkGo [] (By.bl (lkL s))).1.length ≤ _; omega⟩
  clear hs hlow hG H1 hlt hBA q1 q2 hls
  obtain ⟨zs, hzs⟩ : ∃ zs, zs = (lkP s).1 := ⟨_, rfl⟩
  obtain ⟨bd, hbd⟩ : ∃ bd, bd = By.ofL (lkP s).2 := ⟨_, rfl⟩
  obtain ⟨vv, hvv⟩ : ∃ vv, vv = lkV s := ⟨_, rfl⟩
  rw [← hzs, ← hbd, ← hvv]
  rw [← hzs] at HZ
  obtain ⟨ps, hps⟩ : ∃ ps, ps = zs.map plS := ⟨_, rfl⟩
  rw [← hps]
  go_enter Tryd.func20, Tryd.ntmps20
  go_wp2_with (go_at_call 31; (with_reducible refine (HP.out).mono ?_))
  rintro e W1 ⟨hb1, A, c, rfl, hr, hc⟩
  rw [← hzs] at hr hc
  rw [← hzs, ← hbd, ← hvv]
  have HT := like_told vv A c zs bd s 300000 W1 hr hc (by omega) HZ.out.1 HZ.out.2
  rw [← hps] at HT
  obtain ⟨m, hm⟩ : ∃ m, m = zs.length := ⟨_, rfl⟩
  rw [← hm] at HT ⊢
  have HT' : Aside0 (Calls Tryd.prog 30 #[.agg #[.bool vv, .slice A m c, .string bd, .string s]] W1 (LkT vv bd s ps W1)) := ⟨HT.mono fun e w' h => ⟨h⟩⟩
  have HB1 := Aside0.mk hb1
  clear HT hr hc hb1 HZ HP hzs hbd hvv hps hm
  go_wp2_with (go_at_call 30; (with_reducible refine (HT'.out).mono ?_))
  rintro e W2 ⟨⟨v, rfl, hv, hb2⟩⟩
  obtain ⟨A2, c2, rfl, hc2, hr2⟩ := Kd.R_reads hv
  have h0 : W2.heap[w.heap.size]? = some (.cells #[.bool false, .slice none 0 0, .string ⟨#[]⟩, .string ⟨#[]⟩] 46 (0, 0)) := (hb2.block _ (Nat.lt_of_lt_of_le HLT.out HB1.out.size)).trans ((HB1.out.block _ HLT.out).trans HBL.out)
  have HBW : Below w.heap.size w W2 := (HBA.out.trans (HB1.out.mono (Nat.le_of_lt HLT.out))).trans (hb2.mono (Nat.le_trans (Nat.le_of_lt HLT.out) HB1.out.size))
  obtain ⟨e1, e2, e3⟩ := l4_end _ w.heap.size (.bool vv) (.slice A2 ps.length c2) (.string bd) (.string s) h0 hv (Nat.lt_of_lt_of_le HLT.out HB1.out.size) (Nat.le_refl _) HBW
  have q0 := (blk_cell h0 0).trans rfl
  have q1 := (blk_cell h0 1).trans rfl
  have q2 := (blk_cell h0 2).trans rfl
  have q3 := (blk_cell h0 3).trans rfl
  have f0 := blk_frozen h0 0
  have f1 := blk_frozen h0 1
  have f2 := blk_frozen h0 2
  have f3 := blk_frozen h0 3
  have p0 := (blk_cell e1 0).trans rfl
  have p1 := (blk_cell e1 1).trans rfl
  have p2 := (blk_cell e1 2).trans rfl
  have p3 := (blk_cell e1 3).trans rfl
  have HE := Aside0.mk (And.intro e2 e3)
  unfold l4W at p0 p1 p2 p3 HE
  clear hv hc2 hr2 hb2 h0 HBW e1 e2 e3 HBL HLT HBA HB1
  go_wp2
  exact bodyPost_ret (v := .agg #[.bool vv, .slice A2 ps.length c2, .string bd, .string s]) (by simp [results, Tryd.results20, go_sem, p0, p1, p2, p3]) rfl ⟨_, rfl, HE.out.2, HE.out.1⟩
abbrev LZI : Type := S77
def semantic_ZZLikeParse.f (a0 : ByteArray) : Option (Bool × List LZI × ByteArray × ByteArray) := if a0.size ≤ 300000 ∧ (By.bl a0).all (fun c => decide (c.toNat < 128)) = true then some (lkV a0, (lkP a0).1.map plS, By.ofL (lkP a0).2, a0) else none
theorem semantic_ZZLikeParse.calls (a0 : ByteArray) (r1 : Bool) (r2 : List LZI) (r3 : ByteArray) (r4 : ByteArray) (w : World) (hG : GW w) (h : semantic_ZZLikeParse.f a0 = some (r1, r2, r3, r4)) :
    Calls Tryd.prog 20 #[.string a0] w fun e w' => ∃ v1_ : Value, e = .returned (.agg #[.bool r1, v1_, .string r3, .string r4]) ∧ Kd.R k77 77 w' w.heap.size (fun _ => True) v1_ r2 ∧ Below w.heap.size w w' := by
  unfold semantic_ZZLikeParse.f at h
  split at h
  · rename_i hf
    simp only [Option.some.injEq, Prod.mk.injEq] at h
    obtain ⟨rfl, rfl, rfl, rfl⟩ := h
    exact like_zz a0 w hf.1 (fun c hc => of_decide_eq_true (List.all_eq_true.1 hf.2 c hc)) hG
  · cases h

end Go.Proofs.YtajglnedoeboaaaDoor.Z
