-- Written by a program of this session (myprint.py).
import Derived.Test.YtipfmkfpaglkkaaGreatDoorZ0
import Derived.Test.YtipfmkfpaglkkaaGreatDoorZ6
import Derived.Test.YtipfmkfpaglkkaaGreatDoorZ7
import Derived.Test.YtipfmkfpaglkkaaGreatDoorZ8
import Derived.Deep.RegionHeld3
import Derived.Test.YtipfmkfpaglkkaaGreatDoorBg
import Derived.Test.YtipfmkfpaglkkaaGreatDoorBn
import Derived.Test.YtipfmkfpaglkkaaGreatDoorGe
namespace Go.Proofs.YtipfmkfpaglkkaaGreatDoor.Z
open Go.Proofs.YtipfmkfpaglkkaaGreatDoor.Gw
open Go.RowKit Go.Proofs.YtipfmkfpaglkkaaGreatDoorW.PrintWords Go.Proofs.YtipfmkfpaglkkaaGreatDoorW.PrintLast Go.Proofs.YtipfmkfpaglkkaaGreatDoorW.PrintMore
attribute [local go_sem high] Go.Proofs.YtipfmkfpaglkkaaGreatDoor.Ge.gtr_str
attribute [local go_sem] max2_int min2_int max_two min_two max_three min_three max_four min_four   -- for this text's walks alone
set_option linter.unusedVariables false
set_option linter.unusedSimpArgs false

-- PLUGGED impl_pypi: function 19 (a text of this session)
theorem py_hcell {W W' : World} {a : Addr} {v : Value} (hb : Below W.heap.size W W') (h : W.cell? a = some v) : W'.cell? a = some v := (hb.cell (World.block_lt_of_cell? W _ h)).trans h
theorem py_next {w W w' : World} (h1 : Below w.heap.size w W) (h2 : Below W.heap.size W w') : Below w.heap.size w w' := h1.trans (h2.mono h1.size)
theorem py_keep {W W' : World} {g : Nat} {o : Obj} (hb : Below W.heap.size W W') (h : W.heap[g]? = some o) : W'.heap[g]? = some o := (hb.block g (Array.getElem?_eq_some_iff.1 h).1).trans h
theorem py_ptr {w : World} {base : Nat} {ok : Nat → Prop} {z : Int} {v : Value} (h : Big.Own w base ok z v) : ∃ a, v = .pointer (some a) := by
 obtain ⟨o, u, neg, ws, e, _⟩ := h
 exact ⟨_, e⟩
theorem py_at {w : World} {z : Int} {v : Value} (h : Big.At w z v) : ∃ o, v = .pointer (some ⟨o, 0, none⟩) := by
 obtain ⟨o, A, c, neg, ws, e, _⟩ := h
 exact ⟨o, e⟩
/-- A version by its parts: epoch, release, the letters and numbers of the pre-, post- and development release, local and legacy texts. -/
structure PV where
 ep : Int
 rel : List Int
 pl : ByteArray
 pn : Option Int
 ql : ByteArray
 qn : Option Int
 dl : ByteArray
 dn : Option Int
 loc : List ByteArray
 leg : List ByteArray
def PtrAt (w : World) (z : Option Int) (po : Option Addr) : Prop := match z with
 | none => po = none
 | some z => Big.At w z (.pointer po)
theorem PtrAt.below {w w' : World} {z : Option Int} {po : Option Addr} (h : PtrAt w z po) (hb : Below w.heap.size w w') : PtrAt w' z po := by
 cases z with
 | none => exact h
 | some z => exact Big.At.below h hb
theorem PtrAt.none {w : World} {po : Option Addr} (h : PtrAt w .none po) : po = .none := h
theorem PtrAt.some {w : World} {z : Int} {po : Option Addr} (h : PtrAt w (.some z) po) : ∃ o, po = .some ⟨o, 0, .none⟩ ∧ Big.At w z (.pointer (.some ⟨o, 0, .none⟩)) := by
 have h : Big.At w z (.pointer po) := h
 obtain ⟨o, e⟩ := py_at h
 cases e
 exact ⟨o, rfl, h⟩
/-- The ten cells of a version. -/
structure PvV (w : World) (m : PV) (eo po qo dq ra la ga : Option Addr) (rc lc gc : Nat) : Prop where
 e : Big.At w m.ep (.pointer eo)
 r : Kd.C Big.kd w ra m.rel.length m.rel
 rc : m.rel.length ≤ rc
 p : PtrAt w m.pn po
 q : PtrAt w m.qn qo
 d : PtrAt w m.dn dq
 l : Kd.C Kd.string w la m.loc.length m.loc
 lc : m.loc.length ≤ lc
 g : Kd.C Kd.string w ga m.leg.length m.leg
 gc : m.leg.length ≤ gc
theorem PvV.below {w w' : World} {m : PV} {eo po qo dq ra la ga : Option Addr} {rc lc gc : Nat} (h : PvV w m eo po qo dq ra la ga rc lc gc) (hb : Below w.heap.size w w') : PvV w' m eo po qo dq ra la ga rc lc gc :=
 ⟨h.e.below hb, Kd.C_below h.r hb, h.rc, h.p.below hb, h.q.below hb, h.d.below hb, Kd.C_below h.l hb, h.lc, Kd.C_below h.g hb, h.gc⟩
theorem py_S17 {W : World} {b : Nat} {t : TypeId} {x0 x1 x2 x3 x4 x5 x6 x7 x8 x9 x10 x11 x12 x13 x14 x15 x16 : Value} (h : W.heap[b]? = some (.cells #[x0, x1, x2, x3, x4, x5, x6, x7, x8, x9, x10, x11, x12, x13, x14, x15, x16] t (0, 0))) : W.cell? ⟨b, 0, none⟩ = some x0 ∧ W.cell? ⟨b, 1, none⟩ = some x1 ∧ W.cell? ⟨b, 2, none⟩ = some x2 ∧ W.cell? ⟨b, 3, none⟩ = some x3 ∧ W.cell? ⟨b, 4, none⟩ = some x4 ∧ W.cell? ⟨b, 5, none⟩ = some x5 ∧ W.cell? ⟨b, 6, none⟩ = some x6 ∧ W.cell? ⟨b, 7, none⟩ = some x7 ∧ W.cell? ⟨b, 8, none⟩ = some x8 ∧ W.cell? ⟨b, 9, none⟩ = some x9 ∧ W.cell? ⟨b, 10, none⟩ = some x10 ∧ W.cell? ⟨b, 11, none⟩ = some x11 ∧ W.cell? ⟨b, 12, none⟩ = some x12 ∧ W.cell? ⟨b, 13, none⟩ = some x13 ∧ W.cell? ⟨b, 14, none⟩ = some x14 ∧ W.cell? ⟨b, 15, none⟩ = some x15 ∧ W.cell? ⟨b, 16, none⟩ = some x16 :=
 ⟨(blk_cell h 0).trans rfl, (blk_cell h 1).trans rfl, (blk_cell h 2).trans rfl, (blk_cell h 3).trans rfl, (blk_cell h 4).trans rfl, (blk_cell h 5).trans rfl, (blk_cell h 6).trans rfl, (blk_cell h 7).trans rfl, (blk_cell h 8).trans rfl, (blk_cell h 9).trans rfl, (blk_cell h 10).trans rfl, (blk_cell h 11).trans rfl, (blk_cell h 12).trans rfl, (blk_cell h 13).trans rfl, (blk_cell h 14).trans rfl, (blk_cell h 15).trans rfl, (blk_cell h 16).trans rfl⟩
theorem py_S10 {W : World} {b : Nat} {t : TypeId} {x0 x1 x2 x3 x4 x5 x6 x7 x8 x9 : Value} (h : W.heap[b]? = some (.cells #[x0, x1, x2, x3, x4, x5, x6, x7, x8, x9] t (0, 0))) : W.cell? ⟨b, 0, none⟩ = some x0 ∧ W.cell? ⟨b, 1, none⟩ = some x1 ∧ W.cell? ⟨b, 2, none⟩ = some x2 ∧ W.cell? ⟨b, 3, none⟩ = some x3 ∧ W.cell? ⟨b, 4, none⟩ = some x4 ∧ W.cell? ⟨b, 5, none⟩ = some x5 ∧ W.cell? ⟨b, 6, none⟩ = some x6 ∧ W.cell? ⟨b, 7, none⟩ = some x7 ∧ W.cell? ⟨b, 8, none⟩ = some x8 ∧ W.cell? ⟨b, 9, none⟩ = some x9 :=
 ⟨(blk_cell h 0).trans rfl, (blk_cell h 1).trans rfl, (blk_cell h 2).trans rfl, (blk_cell h 3).trans rfl, (blk_cell h 4).trans rfl, (blk_cell h 5).trans rfl, (blk_cell h 6).trans rfl, (blk_cell h 7).trans rfl, (blk_cell h 8).trans rfl, (blk_cell h 9).trans rfl⟩
theorem py_F10 {W : World} {b : Nat} {t : TypeId} {x0 x1 x2 x3 x4 x5 x6 x7 x8 x9 : Value} (h : W.heap[b]? = some (.cells #[x0, x1, x2, x3, x4, x5, x6, x7, x8, x9] t (0, 0))) : W.frozen? ⟨b, 0, none⟩ = false ∧ W.frozen? ⟨b, 1, none⟩ = false ∧ W.frozen? ⟨b, 2, none⟩ = false ∧ W.frozen? ⟨b, 3, none⟩ = false ∧ W.frozen? ⟨b, 4, none⟩ = false ∧ W.frozen? ⟨b, 5, none⟩ = false ∧ W.frozen? ⟨b, 6, none⟩ = false ∧ W.frozen? ⟨b, 7, none⟩ = false ∧ W.frozen? ⟨b, 8, none⟩ = false ∧ W.frozen? ⟨b, 9, none⟩ = false :=
 ⟨blk_frozen h 0, blk_frozen h 1, blk_frozen h 2, blk_frozen h 3, blk_frozen h 4, blk_frozen h 5, blk_frozen h 6, blk_frozen h 7, blk_frozen h 8, blk_frozen h 9⟩
theorem py_far {W : World} {b g i : Nat} {v : Value} (hg : g ≠ b) : (W.setCell ⟨b, i, none⟩ v).heap[g]? = W.heap[g]? := Below.heap_setCell _ _ _ g hg
def py_set (W : World) (b : Nat) (y0 y1 y2 y3 y4 y5 y6 y7 y8 y9 : Value) : World := ((((((((((W.setCell ⟨b, 0, none⟩ y0).setCell ⟨b, 1, none⟩ y1).setCell ⟨b, 2, none⟩ y2).setCell ⟨b, 3, none⟩ y3).setCell ⟨b, 4, none⟩ y4).setCell ⟨b, 5, none⟩ y5).setCell ⟨b, 6, none⟩ y6).setCell ⟨b, 7, none⟩ y7).setCell ⟨b, 8, none⟩ y8).setCell ⟨b, 9, none⟩ y9)
theorem py_set_blk {W : World} {b : Nat} {t : TypeId} {x0 x1 x2 x3 x4 x5 x6 x7 x8 x9 y0 y1 y2 y3 y4 y5 y6 y7 y8 y9 : Value} (h : W.heap[b]? = some (.cells #[x0, x1, x2, x3, x4, x5, x6, x7, x8, x9] t (0, 0))) : (py_set W b y0 y1 y2 y3 y4 y5 y6 y7 y8 y9).heap[b]? = some (.cells #[y0, y1, y2, y3, y4, y5, y6, y7, y8, y9] t (0, 0)) := by
 have h0 := blk_put (cs' := #[y0, x1, x2, x3, x4, x5, x6, x7, x8, x9]) h 0 y0 rfl
 have h1 := blk_put (cs' := #[y0, y1, x2, x3, x4, x5, x6, x7, x8, x9]) h0 1 y1 rfl
 have h2 := blk_put (cs' := #[y0, y1, y2, x3, x4, x5, x6, x7, x8, x9]) h1 2 y2 rfl
 have h3 := blk_put (cs' := #[y0, y1, y2, y3, x4, x5, x6, x7, x8, x9]) h2 3 y3 rfl
 have h4 := blk_put (cs' := #[y0, y1, y2, y3, y4, x5, x6, x7, x8, x9]) h3 4 y4 rfl
 have h5 := blk_put (cs' := #[y0, y1, y2, y3, y4, y5, x6, x7, x8, x9]) h4 5 y5 rfl
 have h6 := blk_put (cs' := #[y0, y1, y2, y3, y4, y5, y6, x7, x8, x9]) h5 6 y6 rfl
 have h7 := blk_put (cs' := #[y0, y1, y2, y3, y4, y5, y6, y7, x8, x9]) h6 7 y7 rfl
 have h8 := blk_put (cs' := #[y0, y1, y2, y3, y4, y5, y6, y7, y8, x9]) h7 8 y8 rfl
 have h9 := blk_put (cs' := #[y0, y1, y2, y3, y4, y5, y6, y7, y8, y9]) h8 9 y9 rfl
 exact h9
theorem py_set_far {W : World} {b g : Nat} {y0 y1 y2 y3 y4 y5 y6 y7 y8 y9 : Value} (hg : g ≠ b) : (py_set W b y0 y1 y2 y3 y4 y5 y6 y7 y8 y9).heap[g]? = W.heap[g]? := by
 unfold py_set
 rw [Below.heap_setCell _ _ _ g hg]
 rw [Below.heap_setCell _ _ _ g hg]
 rw [Below.heap_setCell _ _ _ g hg]
 rw [Below.heap_setCell _ _ _ g hg]
 rw [Below.heap_setCell _ _ _ g hg]
 rw [Below.heap_setCell _ _ _ g hg]
 rw [Below.heap_setCell _ _ _ g hg]
 rw [Below.heap_setCell _ _ _ g hg]
 rw [Below.heap_setCell _ _ _ g hg]
 rw [Below.heap_setCell _ _ _ g hg]
theorem py_set_below {w W : World} {b : Nat} {y0 y1 y2 y3 y4 y5 y6 y7 y8 y9 : Value} (h : Below w.heap.size w W) (hb : w.heap.size ≤ b) : Below w.heap.size w (py_set W b y0 y1 y2 y3 y4 y5 y6 y7 y8 y9) := by
 unfold py_set
 exact (((((((((h.setCell (p := ⟨b, 0, none⟩) hb _).setCell (p := ⟨b, 1, none⟩) hb _).setCell (p := ⟨b, 2, none⟩) hb _).setCell (p := ⟨b, 3, none⟩) hb _).setCell (p := ⟨b, 4, none⟩) hb _).setCell (p := ⟨b, 5, none⟩) hb _).setCell (p := ⟨b, 6, none⟩) hb _).setCell (p := ⟨b, 7, none⟩) hb _).setCell (p := ⟨b, 8, none⟩) hb _).setCell (p := ⟨b, 9, none⟩) hb _
theorem py_own_set {W : World} {base b : Nat} {z : Int} {v : Value} {y0 y1 y2 y3 y4 y5 y6 y7 y8 y9 : Value} (h : Big.Own W base (fun _ => True) z v) (hb : b < base) : Big.Own (py_set W b y0 y1 y2 y3 y4 y5 y6 y7 y8 y9) base (fun _ => True) z v :=
 Big.Own.mono (fun _ _ => trivial) (Big.Own.move (fun k hk => py_set_far (by have := hk.2.1; omega)) h.bound)
theorem py_own_below {W W' : World} {base : Nat} {z : Int} {v : Value} (h : Big.Own W base (fun _ => True) z v) (hb : Below W.heap.size W W') : Big.Own W' base (fun _ => True) z v :=
 Big.Own.mono (fun _ _ => trivial) (Big.Own.move (fun k hk => hb.block k hk.2.2.1) h.bound)
def OwnP (W : World) (base : Nat) (z : Option Int) (po : Option Addr) : Prop := match z with
 | none => po = none
 | some z => Big.Own W base (fun _ => True) z (.pointer po)
theorem OwnP.imp {W W' : World} {base : Nat} {z : Option Int} {po : Option Addr} (h : OwnP W base z po) (hk : ∀ z v, Big.Own W base (fun _ => True) z v → Big.Own W' base (fun _ => True) z v) : OwnP W' base z po := by
 cases z with
 | none => exact h
 | some z => exact hk _ _ h
theorem OwnP.set {W : World} {base b : Nat} {z : Option Int} {po : Option Addr} {y0 y1 y2 y3 y4 y5 y6 y7 y8 y9 : Value} (h : OwnP W base z po) (hb : b < base) : OwnP (py_set W b y0 y1 y2 y3 y4 y5 y6 y7 y8 y9) base z po := OwnP.imp h fun _ _ hz => py_own_set hz hb
theorem OwnP.below {W W' : World} {base : Nat} {z : Option Int} {po : Option Addr} (h : OwnP W base z po) (hb : Below W.heap.size W W') : OwnP W' base z po := OwnP.imp h fun _ _ hz => py_own_below hz hb
theorem OwnP.at_ {W : World} {base : Nat} {z : Option Int} {po : Option Addr} (h : OwnP W base z po) : PtrAt W z po := by
 cases z with
 | none => exact h
 | some z => exact Big.Own.at_ h
theorem py_R_set {W : World} {base b : Nat} {v : Value} {zs : List Int} {y0 y1 y2 y3 y4 y5 y6 y7 y8 y9 : Value} (h : Kd.R Big.kd 44 W base (fun _ => True) v zs) (hb : b < base) : Kd.R Big.kd 44 (py_set W b y0 y1 y2 y3 y4 y5 y6 y7 y8 y9) base (fun _ => True) v zs :=
 Kd.R_mono (Kd.R_move (Kd.R_bound h) (fun k hk => py_set_far (by have := hk.2.1; omega))) (fun _ _ => trivial)
structure PyB (z : Int) (W : World) (e : Ending) (w' : World) : Prop where
 h : ∃ a, e = .returned (.pointer (some a)) ∧ Big.Own w' W.heap.size (fun _ => True) z (.pointer (some a)) ∧ Below W.heap.size W w'
structure PyL (l : ByteArray) (z : Option Int) (W : World) (e : Ending) (w' : World) : Prop where
 h : ∃ po, e = .returned (.agg #[.string l, .pointer po]) ∧ OwnP w' W.heap.size z po ∧ Below W.heap.size W w'
structure PyR (zs : List Int) (n : Nat) (W : World) (e : Ending) (w' : World) : Prop where
 h : ∃ X c, e = .returned (.slice X n c) ∧ Kd.R Big.kd 44 w' W.heap.size (fun _ => True) (.slice X n c) zs ∧ Below W.heap.size W w'
def lzO (has neg : Bool) (mag : ByteArray) : Option Int := if has = true then some (zval neg mag) else none
/-- A version's numbers, of the call's own. -/
structure PvO (W : World) (base : Nat) (m : PV) (n : Nat) (eo po qo dq ra : Option Addr) (rc : Nat) : Prop where
 e : Big.Own W base (fun _ => True) m.ep (.pointer eo)
 r : Kd.R Big.kd 44 W base (fun _ => True) (.slice ra n rc) m.rel
 p : OwnP W base m.pn po
 q : OwnP W base m.qn qo
 d : OwnP W base m.dn dq
theorem PvO.set {W : World} {base b : Nat} {m : PV} {n : Nat} {eo po qo dq ra : Option Addr} {rc : Nat} {y0 y1 y2 y3 y4 y5 y6 y7 y8 y9 : Value} (h : PvO W base m n eo po qo dq ra rc) (hb : b < base) : PvO (py_set W b y0 y1 y2 y3 y4 y5 y6 y7 y8 y9) base m n eo po qo dq ra rc :=
 ⟨py_own_set h.e hb, py_R_set h.r hb, OwnP.set h.p hb, OwnP.set h.q hb, OwnP.set h.d hb⟩
theorem PvO.below {W W' : World} {base : Nat} {m : PV} {n : Nat} {eo po qo dq ra : Option Addr} {rc : Nat} (h : PvO W base m n eo po qo dq ra rc) (hb : Below W.heap.size W W') : PvO W' base m n eo po qo dq ra rc :=
 ⟨py_own_below h.e hb, Kd.R_below h.r hb, OwnP.below h.p hb, OwnP.below h.q hb, OwnP.below h.d hb⟩
theorem OwnP.lower {W : World} {base base' : Nat} {z : Option Int} {po : Option Addr} (hk : base' ≤ base) (h : OwnP W base z po) : OwnP W base' z po := by
 cases z with
 | none => exact h
 | some z => exact Big.Own.lower hk h
theorem PvO.lower {W : World} {base base' : Nat} {m : PV} {n : Nat} {eo po qo dq ra : Option Addr} {rc : Nat} (hk : base' ≤ base) (h : PvO W base m n eo po qo dq ra rc) : PvO W base' m n eo po qo dq ra rc :=
 ⟨Big.Own.lower hk h.e, Kd.R_lower h.r hk, OwnP.lower hk h.p, OwnP.lower hk h.q, OwnP.lower hk h.d⟩
theorem PvO.v {W : World} {base : Nat} {m : PV} {n : Nat} {eo po qo dq ra la ga : Option Addr} {rc lc gc : Nat} (h : PvO W base m n eo po qo dq ra rc) (hl : Kd.C Kd.string W la m.loc.length m.loc) (hlc : m.loc.length ≤ lc) (hg : Kd.C Kd.string W ga m.leg.length m.leg) (hgc : m.leg.length ≤ gc) : PvV W m eo po qo dq ra la ga rc lc gc := by
 obtain ⟨A, c, hv, hc, hr⟩ := Kd.R_reads h.r
 cases hv
 exact ⟨h.e.at_, hr, hc, h.p.at_, h.q.at_, h.d.at_, hl, hlc, hg, hgc⟩
structure PyO (m : PV) (pl ql dl : ByteArray) (n : Nat) (lv gv : Value) (W : World) (e : Ending) (w' : World) : Prop where
 h : ∃ (eo po qo dq ra : Option Addr) (rc : Nat), e = .returned (.agg #[.pointer eo, .slice ra n rc, .string pl, .pointer po, .string ql, .pointer qo, .string dl, .pointer dq, lv, gv]) ∧ PvO w' W.heap.size m n eo po qo dq ra rc ∧ Below W.heap.size W w'
theorem py_ptr0 {w : World} {base : Nat} {ok : Nat → Prop} {z : Int} {v : Value} (h : Big.Own w base ok z v) : ∃ o, v = .pointer (some ⟨o, 0, none⟩) := by
 obtain ⟨o, u, neg, ws, e, _⟩ := h
 exact ⟨o, e⟩
/-- What ZZLetter.letter tells: a text and a number, or none. -/
def LetOwn (w : World) (base : Nat) (has : Bool) (letter : ByteArray) (z : Int) (v : Value) : Prop := ∃ po : Option Addr, v = .agg #[.string letter, .pointer po] ∧ (has = false → po = none) ∧ (has = true → Big.Own w base (fun _ => True) z (.pointer po))
set_option maxRecDepth 100000 in
set_option maxHeartbeats 1000000 in
theorem big_letter (has : Bool) (letter : ByteArray) (neg : Bool) (mag : ByteArray) (w : World) (hl : mag.size ≤ 1000000) :
  Calls Tryz.prog 48 #[.agg #[.bool has, .string letter, .bool neg, .string mag]] w fun e w' => ∃ v, e = .returned v ∧ LetOwn w' w.heap.size has letter (zval neg mag) v ∧ Below w.heap.size w w' := by
 obtain ⟨WA, hWA⟩ : ∃ WA : World, WA = (w.alloc (.cells #[.bool has, .string letter, .bool neg, .string mag] 64)).alloc (.cells #[.string ⟨#[]⟩, .pointer none] 48) := ⟨_, rfl⟩
 have hs1 : (w.alloc (.cells #[.bool has, .string letter, .bool neg, .string mag] 64)).heap.size = w.heap.size + 1 := by simp
 have h0 : WA.heap[w.heap.size]? = some (.cells #[.bool has, .string letter, .bool neg, .string mag] 64 (0, 0)) := by rw [hWA]; exact blk_alloc (blk_new w _) _
 have h1 : WA.heap[w.heap.size + 1]? = some (.cells #[.string ⟨#[]⟩, .pointer none] 48 (0, 0)) := by
  have := blk_new (w.alloc (.cells #[.bool has, .string letter, .bool neg, .string mag] 64)) (.cells #[.string ⟨#[]⟩, .pointer none] 48)
  rw [hs1] at this
  rw [hWA]
  exact this
 have H0 := Aside0.mk h0
 have H1 := Aside0.mk h1
 clear h0 h1 hs1
 cases has with
 | false =>
  clear H0 H1 hWA WA
  go_enter Tryz.func48, Tryz.ntmps48
  go_wp2
  refine bodyPost_ret (results_cell_row rfl _ _ (w.heap.size + 1) 48 #[.string letter, .pointer none] (0, 0) _ rfl (by
   have := blk_new (w.alloc (.cells #[.bool false, .string letter, .bool neg, .string mag] 64)) (.cells #[.string letter, .pointer none] 48)
   have e : (w.alloc (.cells #[.bool false, .string letter, .bool neg, .string mag] 64)).heap.size = w.heap.size + 1 := by simp
   rw [e] at this
   exact this) Tryz.underlying48 rfl (by kernel_rfl)) rfl ?_
  exact ⟨_, rfl, ⟨_, rfl, fun _ => rfl, by simp⟩, ((Below.refl _ w).alloc (Nat.le_refl _) _).alloc (by simp) _⟩
 | true =>
  go_enter Tryz.func48, Tryz.ntmps48
  go_wp2
  rw [← hWA]
  have c1 := (blk_cell H0.out 1).trans rfl
  have c2 := (blk_cell H0.out 2).trans rfl
  have c3 := (blk_cell H0.out 3).trans rfl
  have c4 := H1.out
  have c5 : w.heap.size + 1 < WA.heap.size := (Array.getElem?_eq_some_iff.1 H1.out).1
  have c6 : Below w.heap.size w WA := by rw [hWA]; exact ((Below.refl _ w).alloc (Nat.le_refl _) _).alloc (by simp) _
  clear hWA H0 H1
  go_region_held3 (fun w' => w'.cell? ⟨w.heap.size, 1, none⟩ = some (.string letter) ∧ w'.cell? ⟨w.heap.size, 2, none⟩ = some (.bool neg) ∧ w'.cell? ⟨w.heap.size, 3, none⟩ = some (.string mag)) (first | exact ⟨by assumption, by assumption, by assumption⟩ | exact ⟨c1, c2, c3⟩ | go_keep)
   (first | (go_at_call 46; refine (big_zzBig neg mag _ hl).mono ?_; rintro e w' ⟨v, rfl, hown, hb⟩; obtain ⟨o', rfl⟩ := py_ptr0 hown; have k1 := py_hcell hb (a := ⟨w.heap.size, 1, none⟩) (v := .string letter) (by first | assumption | exact c1); have k2 := py_hcell hb (a := ⟨w.heap.size, 2, none⟩) (v := .bool neg) (by first | assumption | exact c2); have k3 := py_hcell hb (a := ⟨w.heap.size, 3, none⟩) (v := .string mag) (by first | assumption | exact c3); have k4 := blk_below (g := w.heap.size + 1) (o := .cells #[.string ⟨#[]⟩, .pointer none] 48 (0, 0)) (by first | assumption | exact blk_drew c4) hb; have k6 := (blk_cell k4 0).trans rfl; have k7 := (blk_cell k4 1).trans rfl; have k8 := blk_frozen k4 0; have k9 := blk_frozen k4 1; have k5 : Below w.heap.size w w' := (show Below w.heap.size w _ by first | assumption | exact below_drew c6).trans (hb.mono (show Below w.heap.size w _ by first | assumption | exact below_drew c6).size)))
  go_wp2
  have m1 := blk_put (cs' := #[.string letter, .pointer none]) k4 0 (.string letter) rfl
  have m2 := blk_put (cs' := #[.string letter, .pointer (some ⟨o', 0, none⟩)]) m1 1 (.pointer (some ⟨o', 0, none⟩)) rfl
  have HF : Big.Own ((w'.setCell ⟨w.heap.size + 1, 0, none⟩ (.string letter)).setCell ⟨w.heap.size + 1, 1, none⟩ (.pointer (some ⟨o', 0, none⟩))) w.heap.size (fun _ => True) (zval neg mag) (.pointer (some ⟨o', 0, none⟩)) := by
   have h1 := hown.bound
   have h2 := Big.Own.move (w1 := (w'.setCell ⟨w.heap.size + 1, 0, none⟩ (.string letter)).setCell ⟨w.heap.size + 1, 1, none⟩ (.pointer (some ⟨o', 0, none⟩))) (fun k hk => by
    have h3 : WA.heap.size ≤ k := hk.2.1
    rw [Below.heap_setCell _ _ _ k (by show k ≠ w.heap.size + 1; omega), Below.heap_setCell _ _ _ k (by show k ≠ w.heap.size + 1; omega)]) h1
   exact (h2.mono (fun _ _ => trivial)).lower (by show w.heap.size ≤ WA.heap.size; omega)
  have HB : Below w.heap.size w ((w'.setCell ⟨w.heap.size + 1, 0, none⟩ (.string letter)).setCell ⟨w.heap.size + 1, 1, none⟩ (.pointer (some ⟨o', 0, none⟩))) := (k5.setCell (p := ⟨w.heap.size + 1, 0, none⟩) (by show w.heap.size ≤ w.heap.size + 1; omega) _).setCell (p := ⟨w.heap.size + 1, 1, none⟩) (by show w.heap.size ≤ w.heap.size + 1; omega) _
  refine bodyPost_ret (results_cell_row rfl _ _ (w.heap.size + 1) 48 #[.string letter, .pointer (some ⟨o', 0, none⟩)] (0, 0) _ rfl m2 Tryz.underlying48 rfl (by kernel_rfl)) rfl ?_
  exact ⟨_, rfl, ⟨_, rfl, by simp, fun _ => HF⟩, HB⟩
theorem py_letter (has : Bool) (letter : ByteArray) (neg : Bool) (mag : ByteArray) (w : World) (hl : mag.size ≤ 1000000) :
  Calls Tryz.prog 48 #[.agg #[.bool has, .string letter, .bool neg, .string mag]] w (PyL letter (lzO has neg mag) w) :=
 (big_letter has letter neg mag w hl).mono fun e w' h => by
  obtain ⟨v, rfl, ⟨po, rfl, h1, h2⟩, h3⟩ := h
  refine ⟨⟨po, rfl, ?_, h3⟩⟩
  cases has with
  | false => exact h1 rfl
  | true => exact h2 rfl
set_option maxRecDepth 100000 in
set_option maxHeartbeats 8000000 in
theorem py_zzv (en : Bool) (em : ByteArray) (RA : Option Addr) (rc : Nat) (rl : List S60) (ph : Bool) (pl : ByteArray) (pn : Bool) (pm : ByteArray) (qh : Bool) (ql : ByteArray) (qn : Bool) (qm : ByteArray) (dh : Bool) (dl : ByteArray) (dn : Bool) (dm : ByteArray) (la : Option Addr) (ln lc : Nat) (loc : List ByteArray) (ga : Option Addr) (gn gc : Nat) (leg : List ByteArray) (w : World)
  (hr : Kd.C k60 w RA rl.length rl) (hrc : rl.length ≤ rc) (hrs : ∀ x ∈ rl, x.f1.size ≤ 1000000) (hrl : rl.length ≤ 1000000) (he : em.size ≤ 1000000) (hp : pm.size ≤ 1000000) (hq : qm.size ≤ 1000000) (hd : dm.size ≤ 1000000) :
  Calls Tryz.prog 35 #[.agg #[.bool en, .string em, .slice RA rl.length rc, .bool ph, .string pl, .bool pn, .string pm, .bool qh, .string ql, .bool qn, .string qm, .bool dh, .string dl, .bool dn, .string dm, .slice la ln lc, .slice ga gn gc]] w (PyO ⟨zval en em, rl.map zvS, pl, lzO ph pn pm, ql, lzO qh qn qm, dl, lzO dh dn dm, loc, leg⟩ pl ql dl rl.length (.slice la ln lc) (.slice ga gn gc) w) := by
 have HE : Aside0 (∀ W, Below w.heap.size w W → Calls Tryz.prog 46 #[.agg #[.bool en, .string em]] W (PyB (zval en em) W)) := ⟨fun W hB => (big_zzBig en em W he).mono fun e w' ⟨v, h1, h2, h3⟩ => by
  obtain ⟨a, rfl⟩ := py_ptr h2
  exact ⟨⟨a, h1, h2, h3⟩⟩⟩
 have HR : Aside0 (∀ W, Below w.heap.size w W → Calls Tryz.prog 47 #[.slice RA rl.length rc] W (PyR (rl.map zvS) rl.length W)) := ⟨fun W hB => (big_zzBigs RA rc rl W (Kd.C_below hr hB) hrc hrs hrl).mono fun e w' ⟨v, h1, h2, h3⟩ => by
  obtain ⟨X, c, hv⟩ := Kd.R_slice h2
  rw [List.length_map] at hv
  subst hv
  exact ⟨⟨X, c, h1, h2, h3⟩⟩⟩
 have Hp : Aside0 (∀ W, Below w.heap.size w W → Calls Tryz.prog 48 #[.agg #[.bool ph, .string pl, .bool pn, .string pm]] W (PyL pl (lzO ph pn pm) W)) := ⟨fun W hB => py_letter ph pl pn pm W hp⟩
 have Hq : Aside0 (∀ W, Below w.heap.size w W → Calls Tryz.prog 48 #[.agg #[.bool qh, .string ql, .bool qn, .string qm]] W (PyL ql (lzO qh qn qm) W)) := ⟨fun W hB => py_letter qh ql qn qm W hq⟩
 have Hd : Aside0 (∀ W, Below w.heap.size w W → Calls Tryz.prog 48 #[.agg #[.bool dh, .string dl, .bool dn, .string dm]] W (PyL dl (lzO dh dn dm) W)) := ⟨fun W hB => py_letter dh dl dn dm W hd⟩
 obtain ⟨rn, hrn⟩ : ∃ n, n = rl.length := ⟨_, rfl⟩
 have HN : Aside0 (rn = rl.length) := ⟨hrn⟩
 rw [← hrn]
 rw [← hrn] at HR
 clear hr hrc hrs hrl he hp hq hd hrn
 obtain ⟨WA, hWA⟩ : ∃ WA : World, WA = (w.alloc (.cells #[.bool en, .string em, .slice RA rn rc, .bool ph, .string pl, .bool pn, .string pm, .bool qh, .string ql, .bool qn, .string qm, .bool dh, .string dl, .bool dn, .string dm, .slice la ln lc, .slice ga gn gc] 67)).alloc (.cells #[.pointer none, .slice none 0 0, .string ⟨#[]⟩, .pointer none, .string ⟨#[]⟩, .pointer none, .string ⟨#[]⟩, .pointer none, .slice none 0 0, .slice none 0 0] 50) := ⟨_, rfl⟩
 have hs1 : (w.alloc (.cells #[.bool en, .string em, .slice RA rn rc, .bool ph, .string pl, .bool pn, .string pm, .bool qh, .string ql, .bool qn, .string qm, .bool dh, .string dl, .bool dn, .string dm, .slice la ln lc, .slice ga gn gc] 67)).heap.size = w.heap.size + 1 := by simp
 have c98 : WA.heap[w.heap.size]? = some (.cells #[.bool en, .string em, .slice RA rn rc, .bool ph, .string pl, .bool pn, .string pm, .bool qh, .string ql, .bool qn, .string qm, .bool dh, .string dl, .bool dn, .string dm, .slice la ln lc, .slice ga gn gc] 67 (0, 0)) := by rw [hWA]; exact blk_alloc (blk_new w _) _
 have c97 : WA.heap[w.heap.size + 1]? = some (.cells #[.pointer none, .slice none 0 0, .string ⟨#[]⟩, .pointer none, .string ⟨#[]⟩, .pointer none, .string ⟨#[]⟩, .pointer none, .slice none 0 0, .slice none 0 0] 50 (0, 0)) := by
  have := blk_new (w.alloc (.cells #[.bool en, .string em, .slice RA rn rc, .bool ph, .string pl, .bool pn, .string pm, .bool qh, .string ql, .bool qn, .string qm, .bool dh, .string dl, .bool dn, .string dm, .slice la ln lc, .slice ga gn gc] 67)) (.cells #[.pointer none, .slice none 0 0, .string ⟨#[]⟩, .pointer none, .string ⟨#[]⟩, .pointer none, .string ⟨#[]⟩, .pointer none, .slice none 0 0, .slice none 0 0] 50)
  rw [hs1] at this
  rw [hWA]
  exact this
 have c99 : Below w.heap.size w WA := by rw [hWA]; exact ((Below.refl _ w).alloc (Nat.le_refl _) _).alloc (by simp) _
 have c96 : WA.drew.heap[w.heap.size]? = some (.cells #[.bool en, .string em, .slice RA rn rc, .bool ph, .string pl, .bool pn, .string pm, .bool qh, .string ql, .bool qn, .string qm, .bool dh, .string dl, .bool dn, .string dm, .slice la ln lc, .slice ga gn gc] 67 (0, 0)) := c98
 have HSZ : Aside0 (w.heap.size + 2 ≤ WA.heap.size) := ⟨(Array.getElem?_eq_some_iff.1 c97).1⟩
 clear hs1
 have HWA := Aside0.mk hWA
 clear hWA
 go_enter Tryz.func35, Tryz.ntmps35
 go_wp2
 rw [← HWA.out]
 clear HWA
 go_region_held3 (fun w' => w'.cell? ⟨w.heap.size, 0, none⟩ = some (.bool en) ∧ w'.cell? ⟨w.heap.size, 1, none⟩ = some (.string em) ∧ w'.cell? ⟨w.heap.size, 2, none⟩ = some (.slice RA rn rc) ∧ w'.cell? ⟨w.heap.size, 3, none⟩ = some (.bool ph) ∧ w'.cell? ⟨w.heap.size, 4, none⟩ = some (.string pl) ∧ w'.cell? ⟨w.heap.size, 5, none⟩ = some (.bool pn) ∧ w'.cell? ⟨w.heap.size, 6, none⟩ = some (.string pm) ∧ w'.cell? ⟨w.heap.size, 7, none⟩ = some (.bool qh) ∧ w'.cell? ⟨w.heap.size, 8, none⟩ = some (.string ql) ∧ w'.cell? ⟨w.heap.size, 9, none⟩ = some (.bool qn) ∧ w'.cell? ⟨w.heap.size, 10, none⟩ = some (.string qm) ∧ w'.cell? ⟨w.heap.size, 11, none⟩ = some (.bool dh) ∧ w'.cell? ⟨w.heap.size, 12, none⟩ = some (.string dl) ∧ w'.cell? ⟨w.heap.size, 13, none⟩ = some (.bool dn) ∧ w'.cell? ⟨w.heap.size, 14, none⟩ = some (.string dm) ∧ w'.cell? ⟨w.heap.size, 15, none⟩ = some (.slice la ln lc) ∧ w'.cell? ⟨w.heap.size, 16, none⟩ = some (.slice ga gn gc)) (first | (with_reducible refine py_S17 (t := 67) ?_; with_reducible assumption) | (with_reducible refine py_S17 (t := 67) ?_; with_reducible exact c96) | (with_reducible refine py_S17 (t := 67) ?_; (repeat (with_reducible refine (py_far (by omega)).trans ?_)); with_reducible assumption))
  (first
   | (go_at_call 46; (with_reducible refine (HE.out _ ?_).mono ?_); (first | (with_reducible assumption) | exact c99 | exact below_drew c99); rintro e wE ⟨⟨aE, rfl, oE, bE⟩⟩; have YE := py_keep bE (g := w.heap.size) (o := .cells #[.bool en, .string em, .slice RA rn rc, .bool ph, .string pl, .bool pn, .string pm, .bool qh, .string ql, .bool qn, .string qm, .bool dh, .string dl, .bool dn, .string dm, .slice la ln lc, .slice ga gn gc] 67 (0, 0)) (by first | (with_reducible assumption) | exact c98); have RE := py_keep bE (g := w.heap.size + 1) (o := .cells #[.pointer none, .slice none 0 0, .string ⟨#[]⟩, .pointer none, .string ⟨#[]⟩, .pointer none, .string ⟨#[]⟩, .pointer none, .slice none 0 0, .slice none 0 0] 50 (0, 0)) (by first | (with_reducible assumption) | exact c97); have BE : Below w.heap.size w wE := py_next (by first | (with_reducible assumption) | exact c99 | exact below_drew c99) bE)
   | (go_at_call 47; (with_reducible refine (HR.out _ ?_).mono ?_); (first | (with_reducible assumption) | exact c99 | exact below_drew c99); rintro e wR ⟨⟨XR, cR, rfl, oR, bR⟩⟩; have YR := py_keep bR (g := w.heap.size) (o := .cells #[.bool en, .string em, .slice RA rn rc, .bool ph, .string pl, .bool pn, .string pm, .bool qh, .string ql, .bool qn, .string qm, .bool dh, .string dl, .bool dn, .string dm, .slice la ln lc, .slice ga gn gc] 67 (0, 0)) (by first | (with_reducible assumption) | exact c98); have RR := py_keep bR (g := w.heap.size + 1) (o := .cells #[.pointer none, .slice none 0 0, .string ⟨#[]⟩, .pointer none, .string ⟨#[]⟩, .pointer none, .string ⟨#[]⟩, .pointer none, .slice none 0 0, .slice none 0 0] 50 (0, 0)) (by first | (with_reducible assumption) | exact c97); have BR : Below w.heap.size w wR := py_next (by first | (with_reducible assumption) | exact c99 | exact below_drew c99) bR)
   | (go_at_call 48; (with_reducible refine (Hp.out _ ?_).mono ?_); (first | (with_reducible assumption) | exact c99 | exact below_drew c99); rintro e wp ⟨⟨pop, rfl, op, bp⟩⟩; have Yp := py_keep bp (g := w.heap.size) (o := .cells #[.bool en, .string em, .slice RA rn rc, .bool ph, .string pl, .bool pn, .string pm, .bool qh, .string ql, .bool qn, .string qm, .bool dh, .string dl, .bool dn, .string dm, .slice la ln lc, .slice ga gn gc] 67 (0, 0)) (by first | (with_reducible assumption) | exact c98); have Rp := py_keep bp (g := w.heap.size + 1) (o := .cells #[.pointer none, .slice none 0 0, .string ⟨#[]⟩, .pointer none, .string ⟨#[]⟩, .pointer none, .string ⟨#[]⟩, .pointer none, .slice none 0 0, .slice none 0 0] 50 (0, 0)) (by first | (with_reducible assumption) | exact c97); have Bp : Below w.heap.size w wp := py_next (by first | (with_reducible assumption) | exact c99 | exact below_drew c99) bp)
   | (go_at_call 48; (with_reducible refine (Hq.out _ ?_).mono ?_); (first | (with_reducible assumption) | exact c99 | exact below_drew c99); rintro e wq ⟨⟨poq, rfl, oq, bq⟩⟩; have Yq := py_keep bq (g := w.heap.size) (o := .cells #[.bool en, .string em, .slice RA rn rc, .bool ph, .string pl, .bool pn, .string pm, .bool qh, .string ql, .bool qn, .string qm, .bool dh, .string dl, .bool dn, .string dm, .slice la ln lc, .slice ga gn gc] 67 (0, 0)) (by first | (with_reducible assumption) | exact c98); have Rq := py_keep bq (g := w.heap.size + 1) (o := .cells #[.pointer none, .slice none 0 0, .string ⟨#[]⟩, .pointer none, .string ⟨#[]⟩, .pointer none, .string ⟨#[]⟩, .pointer none, .slice none 0 0, .slice none 0 0] 50 (0, 0)) (by first | (with_reducible assumption) | exact c97); have Bq : Below w.heap.size w wq := py_next (by first | (with_reducible assumption) | exact c99 | exact below_drew c99) bq)
   | (go_at_call 48; (with_reducible refine (Hd.out _ ?_).mono ?_); (first | (with_reducible assumption) | exact c99 | exact below_drew c99); rintro e wd ⟨⟨pod, rfl, od, bd⟩⟩; have Yd := py_keep bd (g := w.heap.size) (o := .cells #[.bool en, .string em, .slice RA rn rc, .bool ph, .string pl, .bool pn, .string pm, .bool qh, .string ql, .bool qn, .string qm, .bool dh, .string dl, .bool dn, .string dm, .slice la ln lc, .slice ga gn gc] 67 (0, 0)) (by first | (with_reducible assumption) | exact c98); have Rd := py_keep bd (g := w.heap.size + 1) (o := .cells #[.pointer none, .slice none 0 0, .string ⟨#[]⟩, .pointer none, .string ⟨#[]⟩, .pointer none, .string ⟨#[]⟩, .pointer none, .slice none 0 0, .slice none 0 0] 50 (0, 0)) (by first | (with_reducible assumption) | exact c97); have Bd : Below w.heap.size w wd := py_next (by first | (with_reducible assumption) | exact c99 | exact below_drew c99) bd; obtain ⟨f0, f1, f2, f3, f4, f5, f6, f7, f8, f9⟩ := py_F10 Rd; obtain ⟨g0, g1, g2, g3, g4, g5, g6, g7, g8, g9⟩ := py_S10 Rd))
 have z1 : w.heap.size + 1 < WA.drew.heap.size := by have := HSZ.out; show w.heap.size + 1 < WA.heap.size; omega
 have z2 := bE.size
 have z3 := bR.size
 have z4 := bp.size
 have z5 := bq.size
 have HB : Below w.heap.size w (py_set wd (w.heap.size + 1) (.pointer (some aE)) (.slice XR rn cR) (.string pl) (.pointer pop) (.string ql) (.pointer poq) (.string dl) (.pointer pod) (.slice la ln lc) (.slice ga gn gc)) := py_set_below Bd (by omega)
 have HV : PvO (py_set wd (w.heap.size + 1) (.pointer (some aE)) (.slice XR rn cR) (.string pl) (.pointer pop) (.string ql) (.pointer poq) (.string dl) (.pointer pod) (.slice la ln lc) (.slice ga gn gc)) w.heap.size ⟨zval en em, rl.map zvS, pl, lzO ph pn pm, ql, lzO qh qn qm, dl, lzO dh dn dm, loc, leg⟩ rn (some aE) pop poq pod XR cR :=
  PvO.lower (Nat.le_of_lt (Nat.lt_of_succ_lt z1)) (PvO.set ⟨py_own_below (py_own_below (py_own_below (py_own_below oE bR) bp) bq) bd, Kd.R_lower (Kd.R_below (Kd.R_below (Kd.R_below oR bp) bq) bd) z2, OwnP.lower (Nat.le_trans z2 z3) (OwnP.below (OwnP.below op bq) bd), OwnP.lower (Nat.le_trans z2 (Nat.le_trans z3 z4)) (OwnP.below oq bd), OwnP.lower (Nat.le_trans z2 (Nat.le_trans z3 (Nat.le_trans z4 z5))) od⟩ z1)
 have HV := Aside0.mk HV
 have HB := Aside0.mk HB
 have HK := Aside0.mk (py_set_blk Rd (y0 := .pointer (some aE)) (y1 := .slice XR rn cR) (y2 := .string pl) (y3 := .pointer pop) (y4 := .string ql) (y5 := .pointer poq) (y6 := .string dl) (y7 := .pointer pod) (y8 := .slice la ln lc) (y9 := .slice ga gn gc))
 clear z1 z2 z3 z4 z5 f0 f1 f2 f3 f4 f5 f6 f7 f8 f9 g0 g1 g2 g3 g4 g5 g6 g7 g8 g9 oE bE oR bR op bp oq bq od bd YE RE BE YR RR BR Yp Rp Bp Yq Rq Bq Yd Rd Bd c96 c97 c98 c99 HE HR Hp Hq Hd HSZ
 go_wp2
 refine bodyPost_ret (results_cell_row rfl _ _ (w.heap.size + 1) 50 #[.pointer (some aE), .slice XR rn cR, .string pl, .pointer pop, .string ql, .pointer poq, .string dl, .pointer pod, .slice la ln lc, .slice ga gn gc] (0, 0) _ rfl HK.out Tryz.underlying50 rfl (by kernel_rfl)) rfl ?_
 exact ⟨⟨some aE, pop, poq, pod, XR, cR, rfl, HV.out, HB.out⟩⟩
/-- How the arguments are told: the printed bigs. -/
structure PyZ (rs : List S60) (n : Nat) (W : World) (e : Ending) (w' : World) : Prop where
 h : ∃ X c, e = .returned (.slice X n c) ∧ Kd.C k60 w' X n rs ∧ n ≤ c ∧ Below W.heap.size W w'
structure PyT (h_ : Bool) (l : ByteArray) (n : Bool) (m : ByteArray) (W : World) (e : Ending) (w' : World) : Prop where
 h : e = .returned (.agg #[.bool h_, .string l, .bool n, .string m]) ∧ Below W.heap.size W w'
set_option maxRecDepth 100000 in
set_option maxHeartbeats 8000000 in
theorem py_make (en : Bool) (em : ByteArray) (RA : Option Addr) (rn rc : Nat) (rl : List S60) (ph : Bool) (pl : ByteArray) (pn : Bool) (pm : ByteArray) (qh : Bool) (ql : ByteArray) (qn : Bool) (qm : ByteArray) (dh : Bool) (dl : ByteArray) (dn : Bool) (dm : ByteArray) (la : Option Addr) (ln lc : Nat) (loc : List ByteArray) (ga : Option Addr) (gn gc : Nat) (leg : List ByteArray) (w : World)
  (hR : ∀ W, Below w.heap.size w W → Calls Tryz.prog 36 #[.slice RA rn rc] W (PyZ rl rl.length W)) (hrs : ∀ x ∈ rl, x.f1.size ≤ 1000000) (hrl : rl.length ≤ 1000000) (he : em.size ≤ 1000000) (hp : pm.size ≤ 1000000) (hq : qm.size ≤ 1000000) (hd : dm.size ≤ 1000000) :
  Calls Tryz.prog 19 #[.agg #[.bool en, .string em, .slice RA rn rc, .bool ph, .string pl, .bool pn, .string pm, .bool qh, .string ql, .bool qn, .string qm, .bool dh, .string dl, .bool dn, .string dm, .slice la ln lc, .slice ga gn gc]] w (PyO ⟨zval en em, rl.map zvS, pl, lzO ph pn pm, ql, lzO qh qn qm, dl, lzO dh dn dm, loc, leg⟩ pl ql dl rl.length (.slice la ln lc) (.slice ga gn gc) w) := by
 have HR := Aside0.mk hR
 have Hp : Aside0 (∀ W, Below w.heap.size w W → Calls Tryz.prog 37 #[.agg #[.bool ph, .string pl, .bool pn, .string pm]] W (PyT ph pl pn pm W)) := ⟨fun W hB => (impl_letter.calls ph pl pn pm ph pl pn pm W rfl).mono fun e w' h => ⟨h⟩⟩
 have Hq : Aside0 (∀ W, Below w.heap.size w W → Calls Tryz.prog 37 #[.agg #[.bool qh, .string ql, .bool qn, .string qm]] W (PyT qh ql qn qm W)) := ⟨fun W hB => (impl_letter.calls qh ql qn qm qh ql qn qm W rfl).mono fun e w' h => ⟨h⟩⟩
 have Hd : Aside0 (∀ W, Below w.heap.size w W → Calls Tryz.prog 37 #[.agg #[.bool dh, .string dl, .bool dn, .string dm]] W (PyT dh dl dn dm W)) := ⟨fun W hB => (impl_letter.calls dh dl dn dm dh dl dn dm W rfl).mono fun e w' h => ⟨h⟩⟩
 have HZ : Aside0 (∀ X n W, Kd.C k60 W X rl.length rl → rl.length ≤ n → Below w.heap.size w W → Calls Tryz.prog 35 #[.agg #[.bool en, .string em, .slice X rl.length n, .bool ph, .string pl, .bool pn, .string pm, .bool qh, .string ql, .bool qn, .string qm, .bool dh, .string dl, .bool dn, .string dm, .slice la ln lc, .slice ga gn gc]] W (PyO ⟨zval en em, rl.map zvS, pl, lzO ph pn pm, ql, lzO qh qn qm, dl, lzO dh dn dm, loc, leg⟩ pl ql dl rl.length (.slice la ln lc) (.slice ga gn gc) W)) := ⟨fun X n W h1 h2 hB => py_zzv en em X n rl ph pl pn pm qh ql qn qm dh dl dn dm la ln lc loc ga gn gc leg W h1 h2 hrs hrl he hp hq hd⟩
 obtain ⟨zn, hzn⟩ : ∃ n, n = rl.length := ⟨_, rfl⟩
 rw [← hzn]
 rw [← hzn] at HR HZ
 clear hR hrs hrl he hp hq hd hzn
 obtain ⟨WA, hWA⟩ : ∃ WA : World, WA = (w.alloc (.cells #[.bool en, .string em, .slice RA rn rc, .bool ph, .string pl, .bool pn, .string pm, .bool qh, .string ql, .bool qn, .string qm, .bool dh, .string dl, .bool dn, .string dm, .slice la ln lc, .slice ga gn gc] 29)).alloc (.cells #[.pointer none, .slice none 0 0, .string ⟨#[]⟩, .pointer none, .string ⟨#[]⟩, .pointer none, .string ⟨#[]⟩, .pointer none, .slice none 0 0, .slice none 0 0] 50) := ⟨_, rfl⟩
 have hs1 : (w.alloc (.cells #[.bool en, .string em, .slice RA rn rc, .bool ph, .string pl, .bool pn, .string pm, .bool qh, .string ql, .bool qn, .string qm, .bool dh, .string dl, .bool dn, .string dm, .slice la ln lc, .slice ga gn gc] 29)).heap.size = w.heap.size + 1 := by simp
 have c98 : WA.heap[w.heap.size]? = some (.cells #[.bool en, .string em, .slice RA rn rc, .bool ph, .string pl, .bool pn, .string pm, .bool qh, .string ql, .bool qn, .string qm, .bool dh, .string dl, .bool dn, .string dm, .slice la ln lc, .slice ga gn gc] 29 (0, 0)) := by rw [hWA]; exact blk_alloc (blk_new w _) _
 have c97 : WA.heap[w.heap.size + 1]? = some (.cells #[.pointer none, .slice none 0 0, .string ⟨#[]⟩, .pointer none, .string ⟨#[]⟩, .pointer none, .string ⟨#[]⟩, .pointer none, .slice none 0 0, .slice none 0 0] 50 (0, 0)) := by
  have := blk_new (w.alloc (.cells #[.bool en, .string em, .slice RA rn rc, .bool ph, .string pl, .bool pn, .string pm, .bool qh, .string ql, .bool qn, .string qm, .bool dh, .string dl, .bool dn, .string dm, .slice la ln lc, .slice ga gn gc] 29)) (.cells #[.pointer none, .slice none 0 0, .string ⟨#[]⟩, .pointer none, .string ⟨#[]⟩, .pointer none, .string ⟨#[]⟩, .pointer none, .slice none 0 0, .slice none 0 0] 50)
  rw [hs1] at this
  rw [hWA]
  exact this
 have c99 : Below w.heap.size w WA := by rw [hWA]; exact ((Below.refl _ w).alloc (Nat.le_refl _) _).alloc (by simp) _
 have c96 : WA.drew.heap[w.heap.size]? = some (.cells #[.bool en, .string em, .slice RA rn rc, .bool ph, .string pl, .bool pn, .string pm, .bool qh, .string ql, .bool qn, .string qm, .bool dh, .string dl, .bool dn, .string dm, .slice la ln lc, .slice ga gn gc] 29 (0, 0)) := c98
 have HSZ : Aside0 (w.heap.size + 2 ≤ WA.heap.size) := ⟨(Array.getElem?_eq_some_iff.1 c97).1⟩
 clear hs1
 have HWA := Aside0.mk hWA
 clear hWA
 go_enter Tryz.func19, Tryz.ntmps19
 go_wp2
 rw [← HWA.out]
 clear HWA
 go_region_held3 (fun w' => w'.cell? ⟨w.heap.size, 0, none⟩ = some (.bool en) ∧ w'.cell? ⟨w.heap.size, 1, none⟩ = some (.string em) ∧ w'.cell? ⟨w.heap.size, 2, none⟩ = some (.slice RA rn rc) ∧ w'.cell? ⟨w.heap.size, 3, none⟩ = some (.bool ph) ∧ w'.cell? ⟨w.heap.size, 4, none⟩ = some (.string pl) ∧ w'.cell? ⟨w.heap.size, 5, none⟩ = some (.bool pn) ∧ w'.cell? ⟨w.heap.size, 6, none⟩ = some (.string pm) ∧ w'.cell? ⟨w.heap.size, 7, none⟩ = some (.bool qh) ∧ w'.cell? ⟨w.heap.size, 8, none⟩ = some (.string ql) ∧ w'.cell? ⟨w.heap.size, 9, none⟩ = some (.bool qn) ∧ w'.cell? ⟨w.heap.size, 10, none⟩ = some (.string qm) ∧ w'.cell? ⟨w.heap.size, 11, none⟩ = some (.bool dh) ∧ w'.cell? ⟨w.heap.size, 12, none⟩ = some (.string dl) ∧ w'.cell? ⟨w.heap.size, 13, none⟩ = some (.bool dn) ∧ w'.cell? ⟨w.heap.size, 14, none⟩ = some (.string dm) ∧ w'.cell? ⟨w.heap.size, 15, none⟩ = some (.slice la ln lc) ∧ w'.cell? ⟨w.heap.size, 16, none⟩ = some (.slice ga gn gc)) (first | (with_reducible refine py_S17 (t := 29) ?_; with_reducible assumption) | (with_reducible refine py_S17 (t := 29) ?_; with_reducible exact c96) | (with_reducible refine py_S17 (t := 29) ?_; (repeat (with_reducible refine (py_far (by omega)).trans ?_)); with_reducible assumption))
  (first
   | (go_at_call 36; (with_reducible refine (HR.out _ ?_).mono ?_); (first | (with_reducible assumption) | exact c99 | exact below_drew c99); rintro e wR ⟨⟨XR, cR, rfl, oR, lR, bR⟩⟩; have YR := py_keep bR (g := w.heap.size) (o := .cells #[.bool en, .string em, .slice RA rn rc, .bool ph, .string pl, .bool pn, .string pm, .bool qh, .string ql, .bool qn, .string qm, .bool dh, .string dl, .bool dn, .string dm, .slice la ln lc, .slice ga gn gc] 29 (0, 0)) (by first | (with_reducible assumption) | exact c98); have RR := py_keep bR (g := w.heap.size + 1) (o := .cells #[.pointer none, .slice none 0 0, .string ⟨#[]⟩, .pointer none, .string ⟨#[]⟩, .pointer none, .string ⟨#[]⟩, .pointer none, .slice none 0 0, .slice none 0 0] 50 (0, 0)) (by first | (with_reducible assumption) | exact c97); have BR : Below w.heap.size w wR := py_next (by first | (with_reducible assumption) | exact c99 | exact below_drew c99) bR)
   | (go_at_call 37; (with_reducible refine (Hp.out _ ?_).mono ?_); (first | (with_reducible assumption) | exact c99 | exact below_drew c99); rintro e wp ⟨⟨rfl, bp⟩⟩; have Yp := py_keep bp (g := w.heap.size) (o := .cells #[.bool en, .string em, .slice RA rn rc, .bool ph, .string pl, .bool pn, .string pm, .bool qh, .string ql, .bool qn, .string qm, .bool dh, .string dl, .bool dn, .string dm, .slice la ln lc, .slice ga gn gc] 29 (0, 0)) (by first | (with_reducible assumption) | exact c98); have Rp := py_keep bp (g := w.heap.size + 1) (o := .cells #[.pointer none, .slice none 0 0, .string ⟨#[]⟩, .pointer none, .string ⟨#[]⟩, .pointer none, .string ⟨#[]⟩, .pointer none, .slice none 0 0, .slice none 0 0] 50 (0, 0)) (by first | (with_reducible assumption) | exact c97); have Bp : Below w.heap.size w wp := py_next (by first | (with_reducible assumption) | exact c99 | exact below_drew c99) bp; have op := Kd.C_below oR bp)
   | (go_at_call 37; (with_reducible refine (Hq.out _ ?_).mono ?_); (first | (with_reducible assumption) | exact c99 | exact below_drew c99); rintro e wq ⟨⟨rfl, bq⟩⟩; have Yq := py_keep bq (g := w.heap.size) (o := .cells #[.bool en, .string em, .slice RA rn rc, .bool ph, .string pl, .bool pn, .string pm, .bool qh, .string ql, .bool qn, .string qm, .bool dh, .string dl, .bool dn, .string dm, .slice la ln lc, .slice ga gn gc] 29 (0, 0)) (by first | (with_reducible assumption) | exact c98); have Rq := py_keep bq (g := w.heap.size + 1) (o := .cells #[.pointer none, .slice none 0 0, .string ⟨#[]⟩, .pointer none, .string ⟨#[]⟩, .pointer none, .string ⟨#[]⟩, .pointer none, .slice none 0 0, .slice none 0 0] 50 (0, 0)) (by first | (with_reducible assumption) | exact c97); have Bq : Below w.heap.size w wq := py_next (by first | (with_reducible assumption) | exact c99 | exact below_drew c99) bq; have oq := Kd.C_below op bq)
   | (go_at_call 37; (with_reducible refine (Hd.out _ ?_).mono ?_); (first | (with_reducible assumption) | exact c99 | exact below_drew c99); rintro e wd ⟨⟨rfl, bd⟩⟩; have Yd := py_keep bd (g := w.heap.size) (o := .cells #[.bool en, .string em, .slice RA rn rc, .bool ph, .string pl, .bool pn, .string pm, .bool qh, .string ql, .bool qn, .string qm, .bool dh, .string dl, .bool dn, .string dm, .slice la ln lc, .slice ga gn gc] 29 (0, 0)) (by first | (with_reducible assumption) | exact c98); have Rd := py_keep bd (g := w.heap.size + 1) (o := .cells #[.pointer none, .slice none 0 0, .string ⟨#[]⟩, .pointer none, .string ⟨#[]⟩, .pointer none, .string ⟨#[]⟩, .pointer none, .slice none 0 0, .slice none 0 0] 50 (0, 0)) (by first | (with_reducible assumption) | exact c97); have Bd : Below w.heap.size w wd := py_next (by first | (with_reducible assumption) | exact c99 | exact below_drew c99) bd; have od := Kd.C_below oq bd)
   | (go_at_call 35; (with_reducible refine (HZ.out _ _ _ ?_ ?_ ?_).mono ?_); (with_reducible exact od); (with_reducible exact lR); (with_reducible exact Bd); rintro e wZ ⟨⟨aE, pop, poq, pod, XZ, cZ, rfl, oZ, bZ⟩⟩; have YZ := py_keep bZ (g := w.heap.size) (o := .cells #[.bool en, .string em, .slice RA rn rc, .bool ph, .string pl, .bool pn, .string pm, .bool qh, .string ql, .bool qn, .string qm, .bool dh, .string dl, .bool dn, .string dm, .slice la ln lc, .slice ga gn gc] 29 (0, 0)) (by first | (with_reducible assumption) | exact c98); have RZ := py_keep bZ (g := w.heap.size + 1) (o := .cells #[.pointer none, .slice none 0 0, .string ⟨#[]⟩, .pointer none, .string ⟨#[]⟩, .pointer none, .string ⟨#[]⟩, .pointer none, .slice none 0 0, .slice none 0 0] 50 (0, 0)) (by first | (with_reducible assumption) | exact c97); have BZ : Below w.heap.size w wZ := py_next (by first | (with_reducible assumption) | exact c99 | exact below_drew c99) bZ; obtain ⟨f0, f1, f2, f3, f4, f5, f6, f7, f8, f9⟩ := py_F10 RZ; obtain ⟨g0, g1, g2, g3, g4, g5, g6, g7, g8, g9⟩ := py_S10 RZ))
 have z1 : w.heap.size + 1 < WA.drew.heap.size := by have := HSZ.out; show w.heap.size + 1 < WA.heap.size; omega
 have z2 := bR.size
 have z3 := bp.size
 have z4 := bq.size
 have z5 := bd.size
 have HB : Below w.heap.size w (py_set wZ (w.heap.size + 1) (.pointer aE) (.slice XZ zn cZ) (.string pl) (.pointer pop) (.string ql) (.pointer poq) (.string dl) (.pointer pod) (.slice la ln lc) (.slice ga gn gc)) := py_set_below BZ (by omega)
 have HV : PvO (py_set wZ (w.heap.size + 1) (.pointer aE) (.slice XZ zn cZ) (.string pl) (.pointer pop) (.string ql) (.pointer poq) (.string dl) (.pointer pod) (.slice la ln lc) (.slice ga gn gc)) w.heap.size ⟨zval en em, rl.map zvS, pl, lzO ph pn pm, ql, lzO qh qn qm, dl, lzO dh dn dm, loc, leg⟩ zn aE pop poq pod XZ cZ :=
  PvO.lower (by omega) (PvO.set oZ (by omega))
 have HV := Aside0.mk HV
 have HB := Aside0.mk HB
 have HK := Aside0.mk (py_set_blk RZ (y0 := .pointer aE) (y1 := .slice XZ zn cZ) (y2 := .string pl) (y3 := .pointer pop) (y4 := .string ql) (y5 := .pointer poq) (y6 := .string dl) (y7 := .pointer pod) (y8 := .slice la ln lc) (y9 := .slice ga gn gc))
 clear z1 z2 z3 z4 z5 f0 f1 f2 f3 f4 f5 f6 f7 f8 f9 g0 g1 g2 g3 g4 g5 g6 g7 g8 g9 oR lR bR op bp oq bq od bd oZ bZ YR RR BR Yp Rp Bp Yq Rq Bq Yd Rd Bd YZ RZ BZ c96 c97 c98 c99 HR HZ Hp Hq Hd HSZ
 go_wp2
 refine bodyPost_ret (results_cell_row rfl _ _ (w.heap.size + 1) 50 #[.pointer aE, .slice XZ zn cZ, .string pl, .pointer pop, .string ql, .pointer poq, .string dl, .pointer pod, .slice la ln lc, .slice ga gn gc] (0, 0) _ rfl HK.out Tryz.underlying50 rfl (by kernel_rfl)) rfl ?_
 exact ⟨⟨aE, pop, poq, pod, XZ, cZ, rfl, HV.out, HB.out⟩⟩
theorem py_drawn {W W' : World} (h : Drawn0 W W') : Below W.heap.size W W' := by
 obtain ⟨n, rfl⟩ := h
 exact pw_below_drewN (Below.refl _ _) _
def pyFit (a b c d : ByteArray) (l : List S60) : Bool := decide (a.size ≤ 1000000) && (decide (b.size ≤ 1000000) && (decide (c.size ≤ 1000000) && (decide (d.size ≤ 1000000) && (decide (l.length ≤ 1000000) && l.all fun x => decide (x.f1.size ≤ 1000000)))))
theorem pyFit_of {a b c d : ByteArray} {l : List S60} (h : pyFit a b c d l = true) : a.size ≤ 1000000 ∧ b.size ≤ 1000000 ∧ c.size ≤ 1000000 ∧ d.size ≤ 1000000 ∧ l.length ≤ 1000000 ∧ ∀ x ∈ l, x.f1.size ≤ 1000000 := by
 unfold pyFit at h
 rw [Bool.and_eq_true, Bool.and_eq_true, Bool.and_eq_true, Bool.and_eq_true, Bool.and_eq_true, decide_eq_true_eq, decide_eq_true_eq, decide_eq_true_eq, decide_eq_true_eq, decide_eq_true_eq, List.all_eq_true] at h
 exact ⟨h.1, h.2.1, h.2.2.1, h.2.2.2.1, h.2.2.2.2.1, fun x hx => of_decide_eq_true (h.2.2.2.2.2 x hx)⟩
theorem py_bigs {rs : List S60} {W w' : World} {e : Ending} (h : ∃ v : Value, e = .returned v ∧ Kd.R k60 60 w' W.heap.size (fun _ => True) v rs ∧ Below W.heap.size W w') : PyZ rs rs.length W e w' := by
 obtain ⟨v, h1, h2, h3⟩ := h
 obtain ⟨X, c, rfl, hc, hr⟩ := Kd.R_reads h2
 exact ⟨⟨X, c, h1, hr, hc, h3⟩⟩

end Go.Proofs.YtipfmkfpaglkkaaGreatDoor.Z
