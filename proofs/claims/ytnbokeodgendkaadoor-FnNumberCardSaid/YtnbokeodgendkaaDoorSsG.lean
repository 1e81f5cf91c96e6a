/- impl.Number. -/
import Derived.Test.YtnbokeodgendkaaDoorProg
import Derived.Below
import Derived.Deep.Draws
import Derived.Deep.AppendLies
import Derived.Maps.AppendAt
import Derived.OwnWalk
import Derived.Laws.BytesArg
import Derived.Laws.MakeOwn
import Derived.Laws.OwnMore
import Derived.Deep.OwnRows
import Derived.Tactics
import Derived.Lib.ConvBytes
import Derived.Laws.Slices
import Derived.WalkKit
import Derived.KernelRfl
import Derived.RowKit3
import Derived.Deep.LoopGhost
import Derived.Deep.QuietTactic
import Derived.BigQuiet
import Derived.WideLaws
import Derived.Deep.DeepCutAuto
import Derived.Deep.CutBlock
import Derived.Deep.RegionHeld3
import Derived.Laws.Rows
import Derived.Lib.AppendStr
import Derived.ArgAppend
import Derived.Laws.IdiomCopy
import Derived.OrdersHeld
import Derived.Laws.BitsLemmas
import Derived.RowKit
import Derived.Test.YtnbokeodgendkaaDoorWWords
import Derived.Test.YtnbokeodgendkaaDoorWLast
import Derived.Test.YtnbokeodgendkaaDoorWMore
import Derived.Test.YtnbokeodgendkaaDoorWN
import Derived.Test.YtnbokeodgendkaaDoorWKept
import Derived.Test.YtnbokeodgendkaaDoorWShare
import Derived.Test.YtnbokeodgendkaaDoorWInvWords
import Derived.Test.YtnbokeodgendkaaDoorGe
import Derived.Test.YtnbokeodgendkaaDoorSsA
import Derived.Test.YtnbokeodgendkaaDoorSsB
import Derived.Test.YtnbokeodgendkaaDoorSsC
import Derived.Test.YtnbokeodgendkaaDoorSsD
import Derived.Test.YtnbokeodgendkaaDoorSsE
import Derived.Test.YtnbokeodgendkaaDoorSsF
namespace Go.Proofs.YtnbokeodgendkaaDoor.Ss
open Go Go.RowKit Go.Proofs.YtnbokeodgendkaaDoorW.PrintWords Go.Proofs.YtnbokeodgendkaaDoorW.PrintLast Go.Proofs.YtnbokeodgendkaaDoorW.PrintMore
attribute [local go_sem high] Go.Proofs.YtnbokeodgendkaaDoor.Ge.gtr_str
attribute [local go_sem] max2_int min2_int max_two min_two max_three min_three max_four min_four
set_option linter.unusedVariables false
set_option linter.unusedSimpArgs false

open Go.Proofs.YtnbokeodgendkaaDoor.Gw
attribute [local go_sem] EV
/-- A block of a number's plain data. -/
def RB (t g : Nat) (b : Bool) (s : ByteArray) (w : World) : Prop := w.heap[g]? = some (.cells #[.bool b, .string s] t (0, 0))
theorem RB.new (t : Nat) (w : World) (b : Bool) (s : ByteArray) : RB t w.heap.size b s (w.alloc (.cells #[.bool b, .string s] t)) := blk_new w _
theorem RB.move {t g : Nat} {b : Bool} {s : ByteArray} {w w' : World} (h : RB t g b s w) {B : Nat} (hb : Below B w w') (hg : g < B) : RB t g b s w' := (hb.block g hg).trans h
theorem RB.lt {t g : Nat} {b : Bool} {s : ByteArray} {w : World} (h : RB t g b s w) : g < w.heap.size := (Array.getElem?_eq_some_iff.1 h).1
theorem RB.c0 {t g : Nat} {b : Bool} {s : ByteArray} {w : World} (h : RB t g b s w) : w.cell? ⟨g, 0, none⟩ = some (.bool b) := (blk_cell h 0).trans rfl
theorem RB.c1 {t g : Nat} {b : Bool} {s : ByteArray} {w : World} (h : RB t g b s w) : w.cell? ⟨g, 1, none⟩ = some (.string s) := (blk_cell h 1).trans rfl
theorem RB.fr {t g : Nat} {b : Bool} {s : ByteArray} {w : World} (h : RB t g b s w) (k : Nat) : w.frozen? ⟨g, k, none⟩ = false := blk_frozen h k
theorem RB.s0 {t g : Nat} {b : Bool} {s : ByteArray} {w : World} (h : RB t g b s w) (b' : Bool) : RB t g b' s (w.setCell ⟨g, 0, none⟩ (.bool b')) := blk_put h 0 (.bool b') rfl
theorem RB.s1 {t g : Nat} {b : Bool} {s : ByteArray} {w : World} (h : RB t g b s w) (s' : ByteArray) : RB t g b s' (w.setCell ⟨g, 1, none⟩ (.string s')) := blk_put h 1 (.string s') rfl
def ZnP (s : ByteArray) (w : World) (e : Ending) (w' : World) : Prop := Below w.heap.size w w' ∧
  ((cvt s = none ∧ ∃ a, e = .returned (.tuple #[.agg #[.bool false, .string ⟨#[]⟩], EV a])) ∨ (∃ z, cvt s = some z ∧ e = .returned (.tuple #[.agg #[.bool (decide (z < 0)), .string (plainS z)], .nilIface])))
set_option maxRecDepth 100000 in
set_option maxHeartbeats 2000000 in
theorem ss_ZZNumber (s : ByteArray) (w : World) (hs : s.size ≤ 1000000) (hG : GW w) : Calls Tryd.prog 24 #[.string s] w (ZnP s w) := by
  obtain ⟨WA, hWA⟩ : ∃ WA : World, WA = w.alloc (.cells #[.bool false, .string ⟨#[]⟩] 44) := ⟨_, rfl⟩
  have hBA : Below w.heap.size w WA := by rw [hWA]; exact (Below.refl _ _).alloc (Nat.le_refl _) _
  have hb0 : RB 44 w.heap.size false ⟨#[]⟩ WA := by rw [hWA]; exact RB.new _ _ _ _
  have hC := Aside0.mk (ss_convert s WA hs (hG.below hBA))
  have HB := Aside0.mk hBA
  have HR := Aside0.mk hb0
  have HS := Aside0.mk hs
  have HK : Aside0 (WA.heap.size = w.heap.size + 1) := ⟨by rw [hWA]; simp⟩
  clear hb0 hBA hG hs
  rw [hWA] at hC
  rw [hWA] at HB HR HK
  clear hWA
  go_enter Tryd.func24, Tryd.ntmps24
  go_wp2_with (go_at_call 39; (with_reducible refine (hC.out).mono ?_))
  rintro e W2 ⟨hB, h⟩
  have hb2 := HR.out.move hB HR.out.lt
  have HB2 : Aside0 (Below w.heap.size w W2) := ⟨HB.out.trans (hB.mono (by simp))⟩
  rcases h with ⟨hn, a, rfl⟩ | ⟨z, o, hz, rfl, hO⟩
  · have hb3 := hb2.s0 false
    have hb4 := hb3.s1 ⟨#[]⟩
    have HB4 : Aside0 (Below w.heap.size w ((W2.setCell ⟨w.heap.size, 0, none⟩ (.bool false)).setCell ⟨w.heap.size, 1, none⟩ (.string ⟨#[]⟩))) := ⟨(HB2.out.setCell (p := ⟨w.heap.size, 0, none⟩) (Nat.le_refl _) _).setCell (p := ⟨w.heap.size, 1, none⟩) (Nat.le_refl _) _⟩
    obtain ⟨w3, hw3⟩ : ∃ w3, W2.setCell ⟨w.heap.size, 0, none⟩ (.bool false) = w3 := ⟨_, rfl⟩
    rw [hw3] at hb3 hb4 HB4
    obtain ⟨w4, hw4⟩ : ∃ w4, w3.setCell ⟨w.heap.size, 1, none⟩ (.string ⟨#[]⟩) = w4 := ⟨_, rfl⟩
    rw [hw4] at hb4 HB4
    have q0 := hb2.c0
    have f0 := hb2.fr 0
    have q1 := hb3.c1
    have f1 := hb3.fr 1
    have p0 := hb4.c0
    have p1 := hb4.c1
    have HN := Aside0.mk hn
    clear hn hb2 hb3 hb4 hB hC
    go_wp2
    exact bodyPost_ret (v := .tuple #[.agg #[.bool false, .string ⟨#[]⟩], EV a]) (by simp [results, Tryd.results24, go_sem, p0, p1]) rfl ⟨HB4.out, .inl ⟨HN.out, a, rfl⟩⟩
  · have hP := Aside0.mk (ss_plain _ z W2 s.size HS.out (cvt_small hz) hO.at_)
    have HR2 := Aside0.mk hb2
    have HZ := Aside0.mk hz
    clear hz hO hB hb2 hC
    go_wp2_with (go_at_call 40; (with_reducible refine (hP.out).mono ?_))
    rintro e W3 ⟨rfl, hB3⟩
    have hb2 := HR2.out.move hB3 HR2.out.lt
    have hb3 := hb2.s0 (decide (z < 0))
    have hb4 := hb3.s1 (plainS z)
    have HB4 : Aside0 (Below w.heap.size w ((W3.setCell ⟨w.heap.size, 0, none⟩ (.bool (decide (z < 0)))).setCell ⟨w.heap.size, 1, none⟩ (.string (plainS z)))) := ⟨((HB2.out.trans (hB3.mono HB2.out.size)).setCell (p := ⟨w.heap.size, 0, none⟩) (Nat.le_refl _) _).setCell (p := ⟨w.heap.size, 1, none⟩) (Nat.le_refl _) _⟩
    obtain ⟨w3, hw3⟩ : ∃ w3, W3.setCell ⟨w.heap.size, 0, none⟩ (.bool (decide (z < 0))) = w3 := ⟨_, rfl⟩
    rw [hw3] at hb3 hb4 HB4
    obtain ⟨w4, hw4⟩ : ∃ w4, w3.setCell ⟨w.heap.size, 1, none⟩ (.string (plainS z)) = w4 := ⟨_, rfl⟩
    rw [hw4] at hb4 HB4
    have q0 := hb2.c0
    have f0 := hb2.fr 0
    have q1 := hb3.c1
    have f1 := hb3.fr 1
    have p0 := hb4.c0
    have p1 := hb4.c1
    clear hb2 hb3 hb4 hB3
    go_wp2
    exact bodyPost_ret (v := .tuple #[.agg #[.bool (decide (z < 0)), .string (plainS z)], .nilIface]) (by simp [results, Tryd.results24, go_sem, p0, p1]) rfl ⟨HB4.out, .inr ⟨z, HZ.out, rfl⟩⟩

def NumP (s : ByteArray) (w : World) (e : Ending) (w' : World) : Prop := Below w.heap.size w w' ∧
  ((cvt s = none ∧ e = .returned (.tuple #[.agg #[.bool false, .string ⟨#[]⟩], .bool false])) ∨ (∃ z, cvt s = some z ∧ e = .returned (.tuple #[.agg #[.bool (decide (z < 0)), .string (plainS z)], .bool true])))
set_option maxRecDepth 100000 in
set_option maxHeartbeats 2000000 in
theorem ss_Number (s : ByteArray) (w : World) (hs : s.size ≤ 1000000) (hG : GW w) : Calls Tryd.prog 9 #[.string s] w (NumP s w) := by
  obtain ⟨WA, hWA⟩ : ∃ WA : World, WA = w.alloc (.cells #[.bool false, .string ⟨#[]⟩] 25) := ⟨_, rfl⟩
  have hBA : Below w.heap.size w WA := by rw [hWA]; exact (Below.refl _ _).alloc (Nat.le_refl _) _
  have hb0 : RB 25 w.heap.size false ⟨#[]⟩ WA := by rw [hWA]; exact RB.new _ _ _ _
  have hC := Aside0.mk (ss_ZZNumber s WA hs (hG.below hBA))
  have HB := Aside0.mk hBA
  have HR := Aside0.mk hb0
  clear hb0 hBA hG hs
  rw [hWA] at hC
  rw [hWA] at HB HR
  clear hWA
  go_enter Tryd.func9, Tryd.ntmps9
  go_wp2_with (go_at_call 24; (with_reducible refine (hC.out).mono ?_))
  rintro e W2 ⟨hB, h⟩
  have hb2 := HR.out.move hB HR.out.lt
  have HB2 : Aside0 (Below w.heap.size w W2) := ⟨HB.out.trans (hB.mono (by simp))⟩
  have hlt : w.heap.size < W2.heap.size := hb2.lt
  have key : ∀ (b : Bool) (m : ByteArray) (b' : Bool) (m' : ByteArray), RB 25 w.heap.size false ⟨#[]⟩ (W2.alloc (.cells #[.bool b, .string m] 44)) ∧ Below w.heap.size w (((W2.alloc (.cells #[.bool b, .string m] 44)).setCell ⟨w.heap.size, 0, none⟩ (.bool b')).setCell ⟨w.heap.size, 1, none⟩ (.string m')) := fun b m b' m' =>
    ⟨hb2.move (B := W2.heap.size) ((Below.refl _ _).alloc (Nat.le_refl _) _) hlt, ((HB2.out.alloc (Nat.le_of_lt hlt) _).setCell (p := ⟨w.heap.size, 0, none⟩) (Nat.le_refl _) _).setCell (p := ⟨w.heap.size, 1, none⟩) (Nat.le_refl _) _⟩
  have hcell : ∀ (b : Bool) (m : ByteArray), RB 44 W2.heap.size b m (W2.alloc (.cells #[.bool b, .string m] 44)) := fun b m => RB.new _ _ _ _
  rcases h with ⟨hn, a, rfl⟩ | ⟨z, hz, rfl⟩
  · obtain ⟨hb2, HB4⟩ := key false ⟨#[]⟩ false ⟨#[]⟩
    have hb3 := hb2.s0 false
    have hb4 := hb3.s1 ⟨#[]⟩
    have HB4 := Aside0.mk HB4
    obtain ⟨w3, hw3⟩ : ∃ w3, (W2.alloc (.cells #[.bool false, .string ⟨#[]⟩] 44)).setCell ⟨w.heap.size, 0, none⟩ (.bool false) = w3 := ⟨_, rfl⟩
    rw [hw3] at hb3 hb4 HB4
    obtain ⟨w4, hw4⟩ : ∃ w4, w3.setCell ⟨w.heap.size, 1, none⟩ (.string ⟨#[]⟩) = w4 := ⟨_, rfl⟩
    rw [hw4] at hb4 HB4
    have q0 := hb2.c0
    have f0 := hb2.fr 0
    have q1 := hb3.c1
    have f1 := hb3.fr 1
    have p0 := hb4.c0
    have p1 := hb4.c1
    have HN := Aside0.mk hn
    clear hn hb2 hb3 hb4 hB hC key hcell hlt
    go_wp2
    exact bodyPost_ret (v := .tuple #[.agg #[.bool false, .string ⟨#[]⟩], .bool false]) (by simp [results, Tryd.results9, go_sem, p0, p1]) rfl ⟨HB4.out, .inl ⟨HN.out, rfl⟩⟩
  · obtain ⟨hb2, HB4⟩ := key (decide (z < 0)) (plainS z) (decide (z < 0)) (plainS z)
    have hc := hcell (decide (z < 0)) (plainS z)
    have HZ := Aside0.mk hz
    have HE : Aside0 (NumP s w (.returned (.tuple #[.agg #[.bool (decide (z < 0)), .string (plainS z)], .bool true])) (((W2.alloc (.cells #[.bool (decide (z < 0)), .string (plainS z)] 44)).setCell ⟨w.heap.size, 0, none⟩ (.bool (decide (z < 0)))).setCell ⟨w.heap.size, 1, none⟩ (.string (plainS z)))) := ⟨HB4, .inr ⟨z, hz, rfl⟩⟩
    obtain ⟨b, hb⟩ : ∃ b, b = decide (z < 0) := ⟨_, rfl⟩
    obtain ⟨m, hm⟩ : ∃ m, m = plainS z := ⟨_, rfl⟩
    rw [← hb, ← hm] at HE hc hb2
    rw [← hb, ← hm]
    have hb3 := hb2.s0 b
    have hb4 := hb3.s1 m
    obtain ⟨w2, hw2⟩ : ∃ w2, W2.alloc (.cells #[.bool b, .string m] 44) = w2 := ⟨_, rfl⟩
    rw [hw2] at hb2 hb3 hb4 HE hc
    obtain ⟨w3, hw3⟩ : ∃ w3, w2.setCell ⟨w.heap.size, 0, none⟩ (.bool b) = w3 := ⟨_, rfl⟩
    rw [hw3] at hb3 hb4 HE
    obtain ⟨w4, hw4⟩ : ∃ w4, w3.setCell ⟨w.heap.size, 1, none⟩ (.string m) = w4 := ⟨_, rfl⟩
    rw [hw4] at hb4 HE
    have r0 := hc.c0
    have r1 := hc.c1
    have q0 := hb2.c0
    have f0 := hb2.fr 0
    have q1 := hb3.c1
    have f1 := hb3.fr 1
    have p0 := hb4.c0
    have p1 := hb4.c1
    clear hz HB4 hb hm hb2 hb3 hb4 hB hC key hcell hlt hc HZ
    go_wp2
    exact bodyPost_ret (v := .tuple #[.agg #[.bool b, .string m], .bool true]) (by simp [results, Tryd.results9, go_sem, p0, p1]) rfl HE.out

end Go.Proofs.YtnbokeodgendkaaDoor.Ss
