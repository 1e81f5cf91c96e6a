-- Written by a program of this session (myprint.py).
import Derived.Test.YtondnpfncgcdkaaDoorZ0
import Derived.Test.YtondnpfncgcdkaaDoorZ7
import Derived.Test.YtondnpfncgcdkaaDoorZ8
import Derived.BigQuiet
import Derived.Deep.QuietTactic
import Derived.Deep.RegionHeld3
import Derived.Test.YtondnpfncgcdkaaDoorGe
namespace Go.Proofs.YtondnpfncgcdkaaDoor.Z
open Go.Proofs.YtondnpfncgcdkaaDoor.Gw
open Go.RowKit Go.Proofs.YtondnpfncgcdkaaDoorW.PrintWords Go.Proofs.YtondnpfncgcdkaaDoorW.PrintLast Go.Proofs.YtondnpfncgcdkaaDoorW.PrintMore
attribute [local go_sem high] Go.Proofs.YtondnpfncgcdkaaDoor.Ge.gtr_str
attribute [local go_sem] max2_int min2_int max_two min_two max_three min_three max_four min_four   -- for this text's walks alone
set_option linter.unusedVariables false
set_option linter.unusedSimpArgs false

-- PLUGGED impl_MavenCompare: function 14 (a text of this session)
attribute [local go_sem] Ss.EV
abbrev MT : Type := S70
theorem at_Tk {w : World} {A : Option Addr} {n : Nat} {xs : List MT} (h : Kd.C k70 w A n xs) (i : Nat) (h1 : i < xs.length) (hn : n = xs.length) : ∃ ad, A = some ad ∧ w.cell? (ad.add (i * 3)) = some (.string (xs[i]).f0) ∧ w.cell? ⟨(ad.add (i * 3)).block, (ad.add (i * 3)).off + 1, none⟩ = some (.string (xs[i]).f1) ∧ w.cell? ⟨(ad.add (i * 3)).block, (ad.add (i * 3)).off + 2, none⟩ = some (.bool (xs[i]).f2) := by
  obtain ⟨ad, c, e, _, hK, hc0⟩ := Kd.C_get h xs[i] (i : Int) (by omega) (by omega)
  have hc : ∀ j u, c[j]? = some u → w.cell? (ad.add (i * 3 + j)) = some u := hc0
  have hg : xs.getD (i : Int).toNat xs[i] = xs[i] := by rw [Int.toNat_natCast, List.getD_eq_getElem?_getD, List.getElem?_eq_getElem h1]; rfl
  rw [hg] at hK
  obtain rfl := k70_open hK
  exact ⟨ad, e, hc 0 _ rfl, by rw [← add_field _ _ 1 (by omega)]; exact hc 1 _ rfl, by rw [← add_field _ _ 2 (by omega)]; exact hc 2 _ rfl⟩
/-- A filled-up token. -/
def nullT (x : MT) : Option MT := if x.f0.toList = [46] then some ⟨⟨#[46]⟩, if x.f1.toList = [115, 112] then ⟨#[]⟩ else ⟨#[48]⟩, true⟩ else if x.f0.toList = [45] then some ⟨⟨#[45]⟩, ⟨#[]⟩, true⟩ else none
def eqT (x y : MT) : Bool := x.f0.toList == y.f0.toList && x.f1.toList == y.f1.toList
def eqM : List MT → List MT → Bool
  | [], [] => true
  | x :: l, y :: r => eqT x y && eqM l r
  | _, _ => false
def mtI : Value → Nat
  | .int _ n => n.toNat
  | _ => 0
def zeroT : MT := ⟨⟨#[]⟩, ⟨#[]⟩, false⟩
def fillT (l r : List MT) (i : Nat) : Option MT := if i < l.length then some (l.getD i zeroT) else nullT (r.getD i zeroT)
def lsF (l r : List MT) : Nat → Nat → Option Bool
  | 0, _ => some false
  | d + 1, i => (fillT l r i).bind fun x => (fillT r l i).bind fun y => if eqT x y = true then lsF l r d (i + 1) else tkLess x.f0 x.f1 x.f2 y.f0 y.f1 y.f2
def lsM (l r : List MT) : Option Bool := lsF l r (max l.length r.length) 0
def cmM (l r : List MT) : Option Int := if eqM l r = true then some 0 else (lsM l r).bind fun b => some (if b = true then -1 else 1)
theorem eqM_step (l r : List MT) (hl : l.length = r.length) (i : Nat) (h : i < l.length) : eqM (l.drop i) (r.drop i) = (eqT l[i] (r[i]'(by omega)) && eqM (l.drop (i + 1)) (r.drop (i + 1))) := by
  rw [List.drop_eq_getElem_cons h, List.drop_eq_getElem_cons (by omega : i < r.length), eqM]
theorem eqM_len : ∀ (l r : List MT), ¬ l.length = r.length → eqM l r = false
  | [], [], h => absurd rfl h
  | [], _ :: _, _ => rfl
  | _ :: _, [], _ => rfl
  | x :: l, y :: r, h => by
    rw [eqM, eqM_len l r (fun e => h (by simp [e])), Bool.and_false]
/-- Two tokens are the same but for the mark. -/
structure EqP (b : Bool) (w : World) (e : Ending) (w' : World) : Prop where
  h1 : e = .returned (.bool b)
  h2 : Below w.heap.size w w'
set_option maxRecDepth 100000 in
set_option maxHeartbeats 4000000 in
theorem tk_equal (a : Addr) (p v : ByteArray) (q u : ByteArray) (m : Bool) (w : World) (c0 : w.cell? a = some (.string p)) (c1 : w.cell? ⟨a.block, a.off + 1, none⟩ = some (.string v)) :
    Calls Tryd.prog 57 #[.pointer (some a), .agg #[.string q, .string u, .bool m]] w (EqP (p.toList == q.toList && v.toList == u.toList) w) := by
  obtain ⟨WA, hWA⟩ : ∃ WA, WA = w.alloc (.cells #[.string q, .string u, .bool m] 70) := ⟨_, rfl⟩
  have hBA : Below w.heap.size w WA := by rw [hWA]; exact (Below.refl _ _).alloc (Nat.le_refl _) _
  obtain ⟨d0, d1, d2⟩ := TokAt.of_block (w := WA) (b := w.heap.size) (p := q) (v := u) (n := m) (t := 70) (by rw [hWA]; exact blk_new w _)
  replace c0 := tk_cell hBA c0
  replace c1 := tk_cell hBA c1
  have hu := Tryd.underlying70
  have HB := Aside0.mk hBA
  have HW := Aside0.mk hWA
  clear hBA hWA
  rcases Decidable.em (p.toList = q.toList) with e1 | e1
  · have b1 : (p.toList == q.toList) = true := beq_iff_eq.2 e1
    clear e1
    rw [b1, Bool.true_and]
    go_enter Tryd.func57, Tryd.ntmps57
    rw [HW.out] at c0 c1 d0 d1 d2
    go_wp2
    go_quiet (fail)
    go_wp2
    go_ret
    exact ⟨rfl, by rw [← HW.out]; first | exact HB.out | exact pw_below_drewN HB.out _⟩
  · have b1 : (p.toList == q.toList) = false := beq_eq_false_iff_ne.2 e1
    clear e1
    rw [b1, Bool.false_and]
    go_enter Tryd.func57, Tryd.ntmps57
    rw [HW.out] at c0 c1 d0 d1 d2
    go_wp2
    go_quiet (fail)
    go_wp2
    go_ret
    exact ⟨rfl, by rw [← HW.out]; first | exact HB.out | exact pw_below_drewN HB.out _⟩
set_option maxRecDepth 100000 in
set_option maxHeartbeats 8000000 in
theorem mv_equal (A : Option Addr) (c : Nat) (l : List MT) (A2 : Option Addr) (c' : Nat) (r : List MT) (w : World) (hr : Kd.C k70 w A l.length l) (hr' : Kd.C k70 w A2 r.length r) :
    Calls Tryd.prog 50 #[.agg #[.slice A l.length c], .agg #[.slice A2 r.length c']] w (EqP (eqM l r) w) := by
  obtain ⟨WA, hWA⟩ : ∃ WA, WA = (w.alloc (.cells #[.slice A l.length c] 62)).alloc (.cells #[.slice A2 r.length c'] 62) := ⟨_, rfl⟩
  have e1 : (w.alloc (.cells #[.slice A l.length c] 62)).heap.size = w.heap.size + 1 := by simp
  have g1 : WA.heap[w.heap.size]? = some (.cells #[.slice A l.length c] 62 (0, 0)) := by
    rw [hWA]
    exact (((Below.refl _ (w.alloc (.cells #[.slice A l.length c] 62))).alloc (Nat.le_refl _) _).block w.heap.size (by simp)).trans (blk_new w _)
  have g2 : WA.heap[w.heap.size + 1]? = some (.cells #[.slice A2 r.length c'] 62 (0, 0)) := by
    rw [hWA, ← e1]
    exact blk_new _ _
  have hBA : Below w.heap.size w WA := by rw [hWA]; exact ((Below.refl _ w).alloc (Nat.le_refl _) _).alloc (by simp) _
  have hk : Aside0 (∀ W, Below WA.heap.size WA W → W.cell? ⟨w.heap.size, 0, none⟩ = some (.slice A l.length c) ∧ W.cell? ⟨w.heap.size + 1, 0, none⟩ = some (.slice A2 r.length c')) := ⟨fun W hB => ⟨tk_cell hB ((blk_cell g1 0).trans rfl), tk_cell hB ((blk_cell g2 0).trans rfl)⟩⟩
  obtain ⟨c0, c1⟩ := hk.out WA (Below.refl _ _)
  have HR := Aside0.mk (Kd.C_below hr hBA)
  have HR2 := Aside0.mk (Kd.C_below hr' hBA)
  have hm := Kd.C_max hr
  have hm2 := Kd.C_max hr'
  have HB := Aside0.mk hBA
  have HW := Aside0.mk hWA
  have hu := Tryd.underlying70
  have hu2 := Tryd.underlying62
  obtain ⟨n, hn⟩ : ∃ n, n = l.length := ⟨_, rfl⟩
  obtain ⟨n2, hn2⟩ : ∃ n, n = r.length := ⟨_, rfl⟩
  have HN : Aside0 (n = l.length ∧ n2 = r.length) := ⟨hn, hn2⟩
  rw [← hn] at hm c0 HW hk ⊢
  rw [← hn2] at hm2 c1 HW hk ⊢
  clear hr hr' hBA hWA e1 g1 g2 hn hn2
  rcases Decidable.em (n = n2) with rfl | hne
  · have HE : Aside0 (l.length = r.length) := ⟨HN.out.1.symm.trans HN.out.2⟩
    go_enter Tryd.func50, Tryd.ntmps50
    rw [HW.out] at c0 c1
    go_wp2
    rw [← HW.out]
    rw [← HW.out] at c0 c1
    go_loopw [16] (fun v16 wr => ∃ i : Nat, v16 = .int .i64 (i : Int) ∧ i ≤ n ∧ Aside0 (eqM l r = eqM (l.drop i) (r.drop i)) ∧ Aside0 (Below WA.heap.size WA wr)) (fun v16 wr => n - mtI v16)
    case atStart => exact ⟨0, rfl, Nat.zero_le _, ⟨rfl⟩, ⟨Below.refl _ _⟩⟩
    case round =>
      obtain ⟨i, rfl, him, HI, HBR⟩ := hrel
      by_cases hi : i < n
      · have hd : decide ((i : Int) < (n : Int)) = true := decide_eq_true (by omega)
        have hl0 : i < l.length := by have := HN.out.1; omega
        have hl1 : i < r.length := by have := HE.out; omega
        obtain ⟨q1, q2⟩ := hk.out wr HBR.out
        obtain ⟨ad, rfl, x0, x1, x2⟩ := at_Tk (Kd.C_below HR.out HBR.out) i hl0 rfl
        obtain ⟨ad2, rfl, y0, y1, y2⟩ := at_Tk (Kd.C_below HR2.out HBR.out) i hl1 rfl
        have hst := eqM_step l r HE.out i hl0
        rw [← HI.out] at hst
        have heq : eqT l[i] r[i] = ((l[i]).f0.toList == (r[i]).f0.toList && (l[i]).f1.toList == (r[i]).f1.toList) := rfl
        rw [heq] at hst
        generalize (l[i]).f0 = p at x0 hst
        generalize (l[i]).f1 = v at x1 hst
        generalize (r[i]).f0 = q at y0 hst
        generalize (r[i]).f1 = u at y1 hst
        generalize (r[i]).f2 = m at y2
        have HST := Aside0.mk hst
        have HEQ : Aside0 (∀ W, W.cell? (ad.add (i * 3)) = some (.string p) → W.cell? ⟨(ad.add (i * 3)).block, (ad.add (i * 3)).off + 1, none⟩ = some (.string v) → Calls Tryd.prog 57 #[.pointer (some (ad.add (i * 3))), .agg #[.string q, .string u, .bool m]] W (EqP (p.toList == q.toList && v.toList == u.toList) W)) := ⟨fun W a b => tk_equal (ad.add (i * 3)) p v q u m W a b⟩
        obtain ⟨bb, hbb⟩ : ∃ b, b = (p.toList == q.toList && v.toList == u.toList) := ⟨_, rfl⟩
        rw [← hbb] at HST HEQ
        have hi0 : (0 : Int) ≤ (i : Int) := by omega
        have hia : (i : Int) < (n : Int) := by omega
        clear hst heq hbb hl0 hl1 x2
        go_wp2
        go_region_held3 (fun w' => w'.cell? ⟨w.heap.size, 0, none⟩ = some (.slice (some ad) n c) ∧ w'.cell? ⟨w.heap.size + 1, 0, none⟩ = some (.slice (some ad2) n c') ∧ w'.cell? (ad.add (i * 3)) = some (.string p) ∧ w'.cell? ⟨(ad.add (i * 3)).block, (ad.add (i * 3)).off + 1, none⟩ = some (.string v) ∧ w'.cell? (ad2.add (i * 3)) = some (.string q) ∧ w'.cell? ⟨(ad2.add (i * 3)).block, (ad2.add (i * 3)).off + 1, none⟩ = some (.string u) ∧ w'.cell? ⟨(ad2.add (i * 3)).block, (ad2.add (i * 3)).off + 2, none⟩ = some (.bool m)) (first | exact ⟨by with_reducible assumption, by with_reducible assumption, by with_reducible assumption, by with_reducible assumption, by with_reducible assumption, by with_reducible assumption, by with_reducible assumption⟩ | exact ⟨q1, q2, x0, x1, y0, y1, y2⟩ | go_keep)
          (first | (go_at_call 57; (with_reducible refine (HEQ.out _ ?_ ?_).mono ?_); (first | (with_reducible assumption) | exact x0); (first | (with_reducible assumption) | exact x1); rintro e w1 ⟨rfl, hb⟩; have B9 := (show Below wr.heap.size wr _ by first | (with_reducible assumption) | exact Below.refl _ _ | exact below_drew (Below.refl _ _)).trans (hb.mono (show Below wr.heap.size wr _ by first | (with_reducible assumption) | exact Below.refl _ _ | exact below_drew (Below.refl _ _)).size); have k0 : _ := tk_cell (a := ⟨w.heap.size, 0, none⟩) (v := (.slice (some ad) n c)) hb (by first | (with_reducible assumption) | exact q1); have k1 : _ := tk_cell (a := ⟨w.heap.size + 1, 0, none⟩) (v := (.slice (some ad2) n c')) hb (by first | (with_reducible assumption) | exact q2); have k2 : _ := tk_cell (a := (ad.add (i * 3))) (v := (.string p)) hb (by first | (with_reducible assumption) | exact x0); have k3 : _ := tk_cell (a := ⟨(ad.add (i * 3)).block, (ad.add (i * 3)).off + 1, none⟩) (v := (.string v)) hb (by first | (with_reducible assumption) | exact x1); have k4 : _ := tk_cell (a := (ad2.add (i * 3))) (v := (.string q)) hb (by first | (with_reducible assumption) | exact y0); have k5 : _ := tk_cell (a := ⟨(ad2.add (i * 3)).block, (ad2.add (i * 3)).off + 1, none⟩) (v := (.string u)) hb (by first | (with_reducible assumption) | exact y1); have k6 : _ := tk_cell (a := ⟨(ad2.add (i * 3)).block, (ad2.add (i * 3)).off + 2, none⟩) (v := (.bool m)) hb (by first | (with_reducible assumption) | exact y2)))
        clear HEQ
        have HB9 : Aside0 (Below WA.heap.size WA _) := ⟨HBR.out.trans (B9.mono HBR.out.size)⟩
        clear B9
        cases bb with
        | true =>
          have HF : Aside0 (eqM l r = eqM (l.drop (i + 1)) (r.drop (i + 1))) := ⟨by rw [HST.out, Bool.true_and]⟩
          have HIN := Aside0.mk hi
          go_wp2
          go_roundw
          case rel => exact ⟨i + 1, by go_num, by have := HIN.out; omega, HF, ⟨by first | exact HB9.out | exact pw_below_drewN HB9.out _⟩⟩
          case measure =>
            have := HIN.out
            show n - mtI _ < n - mtI _
            simp only [mtI]
            omega
        | false =>
          have HF : Aside0 (eqM l r = false) := ⟨by rw [HST.out, Bool.false_and]⟩
          go_wp2
          go_ret
          exact ⟨by first | (rw [HF.out]; done) | (rw [HF.out]; rfl), HB.out.trans ((by first | exact HB9.out | exact pw_below_drewN HB9.out _ : Below WA.heap.size WA _).mono HB.out.size)⟩
      · have hd : decide ((i : Int) < (n : Int)) = false := decide_eq_false (by omega)
        have HF : Aside0 (eqM l r = true) := ⟨by
          have h1 : i = l.length := by have := HN.out.1; omega
          have h2 : i = r.length := by have := HN.out.2; omega
          rw [HI.out, List.drop_of_length_le (by omega), List.drop_of_length_le (by omega)]
          rfl⟩
        go_wp2
        go_ret
        exact ⟨by first | (rw [HF.out]; done) | (rw [HF.out]; rfl), HB.out.trans (HBR.out.mono HB.out.size)⟩
  · have HF : Aside0 (eqM l r = false) := ⟨eqM_len l r (fun e => hne (by have := HN.out; omega))⟩
    have hb : ((n : Int) != (n2 : Int)) = true := bne_iff_ne.2 (by omega)
    have hb2 : (n != n2) = true := bne_iff_ne.2 hne
    go_enter Tryd.func50, Tryd.ntmps50
    rw [HW.out] at c0 c1
    go_wp2
    go_ret
    exact ⟨by first | (rw [HF.out]; done) | (rw [HF.out]; rfl), by rw [← HW.out]; exact HB.out⟩
/-- Three cells of a block are written. -/
def st3 (W : World) (b : Nat) (p v : ByteArray) (n : Bool) : World := ((W.setCell ⟨b, 0, none⟩ (.string p)).setCell ⟨b, 1, none⟩ (.string v)).setCell ⟨b, 2, none⟩ (.bool n)
theorem st3_blk {W : World} {b : Nat} {p v p' v' : ByteArray} {n n' : Bool} {t : TypeId} (h : W.heap[b]? = some (.cells #[.string p', .string v', .bool n'] t (0, 0))) : (st3 W b p v n).heap[b]? = some (.cells #[.string p, .string v, .bool n] t (0, 0)) :=
  blk_put (cs := #[.string p, .string v, .bool n']) (blk_put (cs := #[.string p, .string v', .bool n']) (blk_put h 0 _ rfl) 1 _ rfl) 2 _ rfl
theorem st3_far {W : World} {b g : Nat} {p v : ByteArray} {n : Bool} {o : Obj} (hg : g ≠ b) (h : W.heap[g]? = some o) : (st3 W b p v n).heap[g]? = some o := by
  unfold st3
  rw [Below.heap_setCell _ _ _ _ hg, Below.heap_setCell _ _ _ _ hg, Below.heap_setCell _ _ _ _ hg]
  exact h
theorem st3_below {w W : World} {b : Nat} {p v : ByteArray} {n : Bool} (h : Below w.heap.size w W) (hb : w.heap.size ≤ b) : Below w.heap.size w (st3 W b p v n) := below_set (below_set (below_set h hb) hb) hb
structure NulP (p v : ByteArray) (n : Bool) (w : World) (e : Ending) (w' : World) : Prop where
  h1 : e = .returned (.tuple #[.agg #[.string p, .string v, .bool n], .nilIface])
  h2 : Below w.heap.size w w'
set_option maxRecDepth 100000 in
set_option maxHeartbeats 4000000 in
theorem nul_tok (p v : ByteArray) (n : Bool) (z : MT) (w : World) (h : nullT ⟨p, v, n⟩ = some z) :
    Calls Tryd.prog 58 #[.agg #[.string p, .string v, .bool n]] w (NulP z.f0 z.f1 z.f2 w) := by
  obtain ⟨WA, hWA⟩ : ∃ WA, WA = (w.alloc (.cells #[.string p, .string v, .bool n] 70)).alloc (.cells #[.string (⟨#[]⟩ : ByteArray), .string (⟨#[]⟩ : ByteArray), .bool false] 70) := ⟨_, rfl⟩
  have e1 : (w.alloc (.cells #[.string p, .string v, .bool n] 70)).heap.size = w.heap.size + 1 := by simp
  have g1 : WA.heap[w.heap.size]? = some (.cells #[.string p, .string v, .bool n] 70 (0, 0)) := by
    rw [hWA]
    exact (((Below.refl _ (w.alloc (.cells #[.string p, .string v, .bool n] 70))).alloc (Nat.le_refl _) _).block w.heap.size (by simp)).trans (blk_new w _)
  have g2 : WA.heap[w.heap.size + 1]? = some (.cells #[.string (⟨#[]⟩ : ByteArray), .string (⟨#[]⟩ : ByteArray), .bool false] 70 (0, 0)) := by
    rw [hWA, ← e1]
    exact blk_new _ _
  have hBA : Below w.heap.size w WA := by rw [hWA]; exact ((Below.refl _ w).alloc (Nat.le_refl _) _).alloc (by simp) _
  obtain ⟨c0, c1, c2⟩ := TokAt.of_block g1
  have hu := Tryd.underlying70
  have f0 := blk_frozen g2 0
  have f1 := blk_frozen g2 1
  have f2 := blk_frozen g2 2
  have d0 := (blk_cell g2 0).trans rfl
  have d1 := (blk_cell g2 1).trans rfl
  have d2 := (blk_cell g2 2).trans rfl
  have HZ := Aside0.mk g2
  have HB := Aside0.mk hBA
  have HW := Aside0.mk hWA
  clear e1 g1 g2 hBA hWA
  unfold nullT at h
  rcases Decidable.em (p.toList = [46]) with a1 | a1
  · have b1 : (p.toList == [46]) = true := beq_iff_eq.2 a1
    rw [if_pos a1] at h
    clear a1
    rcases Decidable.em (v.toList = [115, 112]) with a2 | a2
    · have b2 : (v.toList == [115, 112]) = true := beq_iff_eq.2 a2
      rw [if_pos a2] at h
      clear a2
      obtain rfl := Option.some.inj h
      clear h
      rw [HW.out] at c0 c1 c2 f0 f1 f2 d0 d1 d2
      have HF : Aside0 (Below w.heap.size w ((w.alloc (.cells #[.string p, .string v, .bool n] 70)).alloc (.cells #[.string (⟨#[46]⟩ : ByteArray), .string (⟨#[]⟩ : ByteArray), .bool true] 70))) := ⟨((Below.refl _ w).alloc (Nat.le_refl _) _).alloc (by simp) _⟩
      clear HZ HB HW
      go_enter Tryd.func58, Tryd.ntmps58
      go_wp2
      exact bodyPost_ret (v := .tuple #[.agg #[.string (⟨#[46]⟩ : ByteArray), .string (⟨#[]⟩ : ByteArray), .bool true], .nilIface]) (by simp [results, Tryd.results58, go_sem, Tryd.underlying70]) rfl ⟨rfl, HF.out⟩
    · have b2 : (v.toList == [115, 112]) = false := beq_eq_false_iff_ne.2 a2
      rw [if_neg a2] at h
      clear a2
      obtain rfl := Option.some.inj h
      clear h
      rw [HW.out] at c0 c1 c2 f0 f1 f2 d0 d1 d2
      have HF : Aside0 (Below w.heap.size w ((w.alloc (.cells #[.string p, .string v, .bool n] 70)).alloc (.cells #[.string (⟨#[46]⟩ : ByteArray), .string (⟨#[48]⟩ : ByteArray), .bool true] 70))) := ⟨((Below.refl _ w).alloc (Nat.le_refl _) _).alloc (by simp) _⟩
      clear HZ HB HW
      go_enter Tryd.func58, Tryd.ntmps58
      go_wp2
      exact bodyPost_ret (v := .tuple #[.agg #[.string (⟨#[46]⟩ : ByteArray), .string (⟨#[48]⟩ : ByteArray), .bool true], .nilIface]) (by simp [results, Tryd.results58, go_sem, Tryd.underlying70]) rfl ⟨rfl, HF.out⟩
  · have b1 : (p.toList == [46]) = false := beq_eq_false_iff_ne.2 a1
    rw [if_neg a1] at h
    clear a1
    rcases Decidable.em (p.toList = [45]) with a2 | a2
    · have b2 : (p.toList == [45]) = true := beq_iff_eq.2 a2
      rw [if_pos a2] at h
      clear a2
      obtain rfl := Option.some.inj h
      clear h
      rw [HW.out] at c0 c1 c2 f0 f1 f2 d0 d1 d2
      have HF : Aside0 (Below w.heap.size w ((w.alloc (.cells #[.string p, .string v, .bool n] 70)).alloc (.cells #[.string (⟨#[45]⟩ : ByteArray), .string (⟨#[]⟩ : ByteArray), .bool true] 70))) := ⟨((Below.refl _ w).alloc (Nat.le_refl _) _).alloc (by simp) _⟩
      clear HZ HB HW
      go_enter Tryd.func58, Tryd.ntmps58
      go_wp2
      exact bodyPost_ret (v := .tuple #[.agg #[.string (⟨#[45]⟩ : ByteArray), .string (⟨#[]⟩ : ByteArray), .bool true], .nilIface]) (by simp [results, Tryd.results58, go_sem, Tryd.underlying70]) rfl ⟨rfl, HF.out⟩
    · rw [if_neg a2] at h
      cases h
/-- The memory of a comparison: both versions, two tokens. -/
structure MvI (w : World) (A : Option Addr) (n c : Nat) (A2 : Option Addr) (n2 c' : Nat) (W : World) : Prop where
  b1 : W.heap[w.heap.size]? = some (.cells #[.slice A n c] 62 (0, 0))
  b2 : W.heap[w.heap.size + 1]? = some (.cells #[.slice A2 n2 c'] 62 (0, 0))
  bl : ∃ p v m, W.heap[w.heap.size + 1 + 1]? = some (.cells #[.string p, .string v, .bool m] 70 (0, 0))
  br : ∃ p v m, W.heap[w.heap.size + 1 + 1 + 1]? = some (.cells #[.string p, .string v, .bool m] 70 (0, 0))
theorem blk_keep {W W' : World} {g : Nat} {o : Obj} (hb : Below W.heap.size W W') (h : W.heap[g]? = some o) : W'.heap[g]? = some o := (hb.block g (Array.getElem?_eq_some_iff.1 h).1).trans h
theorem MvI.below {w : World} {A : Option Addr} {n c : Nat} {A2 : Option Addr} {n2 c' : Nat} {W W' : World} (h : MvI w A n c A2 n2 c' W) (hb : Below W.heap.size W W') : MvI w A n c A2 n2 c' W' := by
  obtain ⟨h1, h2, ⟨p, v, m, h3⟩, q, u, m', h4⟩ := h
  exact ⟨blk_keep hb h1, blk_keep hb h2, ⟨p, v, m, blk_keep hb h3⟩, q, u, m', blk_keep hb h4⟩
theorem MvI.left {w : World} {A : Option Addr} {n c : Nat} {A2 : Option Addr} {n2 c' : Nat} {W : World} (h : MvI w A n c A2 n2 c' W) (p v : ByteArray) (m : Bool) : MvI w A n c A2 n2 c' (st3 W (w.heap.size + 1 + 1) p v m) := by
  obtain ⟨h1, h2, ⟨_, _, _, h3⟩, q, u, m', h4⟩ := h
  exact ⟨st3_far (by omega) h1, st3_far (by omega) h2, ⟨p, v, m, st3_blk h3⟩, q, u, m', st3_far (by omega) h4⟩
theorem MvI.right {w : World} {A : Option Addr} {n c : Nat} {A2 : Option Addr} {n2 c' : Nat} {W : World} (h : MvI w A n c A2 n2 c' W) (p v : ByteArray) (m : Bool) : MvI w A n c A2 n2 c' (st3 W (w.heap.size + 1 + 1 + 1) p v m) := by
  obtain ⟨h1, h2, ⟨q, u, m', h3⟩, _, _, _, h4⟩ := h
  exact ⟨st3_far (by omega) h1, st3_far (by omega) h2, ⟨q, u, m', st3_far (by omega) h3⟩, p, v, m, st3_blk h4⟩
/-- What a block of a token offers to a walk. -/
theorem fz3 {W : World} {b : Nat} (h : ∃ p v m, W.heap[b]? = some (.cells #[.string p, .string v, .bool m] 70 (0, 0))) : W.frozen? ⟨b, 0, none⟩ = false ∧ W.frozen? ⟨b, 1, none⟩ = false ∧ W.frozen? ⟨b, 2, none⟩ = false := by
  obtain ⟨p, v, m, h⟩ := h
  exact ⟨blk_frozen h 0, blk_frozen h 1, blk_frozen h 2⟩
theorem lsF_step (l r : List MT) (d i : Nat) : lsF l r (d + 1) i = (fillT l r i).bind fun x => (fillT r l i).bind fun y => if eqT x y = true then lsF l r d (i + 1) else tkLess x.f0 x.f1 x.f2 y.f0 y.f1 y.f2 := rfl
structure LsP (b : Bool) (w : World) (e : Ending) (w' : World) : Prop where
  h1 : e = .returned (.tuple #[.bool b, .nilIface])
  h2 : Below w.heap.size w w'
theorem nullT_sz {x z : MT} (h : nullT x = some z) : z.f1.size ≤ 1000000 := by
  unfold nullT at h
  split at h
  · obtain rfl := Option.some.inj h
    show (if x.f1.toList = [115, 112] then (⟨#[]⟩ : ByteArray) else ⟨#[48]⟩).size ≤ 1000000
    split <;> decide
  · split at h
    · obtain rfl := Option.some.inj h
      decide
    · cases h
theorem getD_at {xs : List MT} {i : Nat} (h : i < xs.length) : xs.getD i zeroT = xs[i] := by
  rw [List.getD_eq_getElem?_getD, List.getElem?_eq_getElem h]
  rfl
set_option maxRecDepth 100000 in
set_option maxHeartbeats 16000000 in
theorem mv_less (A : Option Addr) (c : Nat) (l : List MT) (A2 : Option Addr) (c' : Nat) (r : List MT) (res : Bool) (w : World) (hr : Kd.C k70 w A l.length l) (hr' : Kd.C k70 w A2 r.length r) (hs : ∀ x ∈ l, x.f1.size ≤ 1000000) (hs' : ∀ x ∈ r, x.f1.size ≤ 1000000) (hG : GW w) (h : lsM l r = some res) :
    Calls Tryd.prog 51 #[.agg #[.slice A l.length c], .agg #[.slice A2 r.length c']] w (LsP res w) := by
  obtain ⟨WB, hWB⟩ : ∃ W, W = (w.alloc (.cells #[.slice A l.length c] 62)).alloc (.cells #[.slice A2 r.length c'] 62) := ⟨_, rfl⟩
  obtain ⟨WA, hWA⟩ : ∃ W, W = (WB.alloc (.cells #[.string (⟨#[]⟩ : ByteArray), .string (⟨#[]⟩ : ByteArray), .bool false] 70)).alloc (.cells #[.string (⟨#[]⟩ : ByteArray), .string (⟨#[]⟩ : ByteArray), .bool false] 70) := ⟨_, rfl⟩
  have z1 : (w.alloc (.cells #[.slice A l.length c] 62)).heap.size = w.heap.size + 1 := by simp
  have z2 : WB.heap.size = w.heap.size + 1 + 1 := by rw [hWB]; simp
  have z3 : (WB.alloc (.cells #[.string (⟨#[]⟩ : ByteArray), .string (⟨#[]⟩ : ByteArray), .bool false] 70)).heap.size = w.heap.size + 1 + 1 + 1 := by simp [z2]
  have g1 : WB.heap[w.heap.size]? = some (.cells #[.slice A l.length c] 62 (0, 0)) := by
    rw [hWB]
    exact (((Below.refl _ (w.alloc (.cells #[.slice A l.length c] 62))).alloc (Nat.le_refl _) _).block w.heap.size (by simp)).trans (blk_new w _)
  have g2 : WB.heap[w.heap.size + 1]? = some (.cells #[.slice A2 r.length c'] 62 (0, 0)) := by
    rw [hWB, ← z1]
    exact blk_new _ _
  have hB1 : Below w.heap.size w WB := by rw [hWB]; exact ((Below.refl _ w).alloc (Nat.le_refl _) _).alloc (by simp) _
  have hB2 : Below WB.heap.size WB WA := by rw [hWA]; exact ((Below.refl _ WB).alloc (Nat.le_refl _) _).alloc (by simp) _
  have g3 : WA.heap[w.heap.size + 1 + 1]? = some (.cells #[.string (⟨#[]⟩ : ByteArray), .string (⟨#[]⟩ : ByteArray), .bool false] 70 (0, 0)) := by
    rw [hWA, ← z2]
    exact (((Below.refl _ (WB.alloc (.cells #[.string (⟨#[]⟩ : ByteArray), .string (⟨#[]⟩ : ByteArray), .bool false] 70))).alloc (Nat.le_refl _) _).block WB.heap.size (by simp)).trans (blk_new WB _)
  have g4 : WA.heap[w.heap.size + 1 + 1 + 1]? = some (.cells #[.string (⟨#[]⟩ : ByteArray), .string (⟨#[]⟩ : ByteArray), .bool false] 70 (0, 0)) := by
    rw [hWA, ← z3]
    exact blk_new _ _
  have hMA : MvI w A l.length c A2 r.length c' WA := ⟨blk_keep hB2 g1, blk_keep hB2 g2, ⟨_, _, _, g3⟩, _, _, _, g4⟩
  have c0 : WB.cell? ⟨w.heap.size, 0, none⟩ = some (.slice A l.length c) := (blk_cell g1 0).trans rfl
  have c1 : WB.cell? ⟨w.heap.size + 1, 0, none⟩ = some (.slice A2 r.length c') := (blk_cell g2 0).trans rfl
  have HM := Aside0.mk hMA
  have HB := Aside0.mk (hB1.trans (hB2.mono hB1.size))
  have HR := Aside0.mk hr
  have HR2 := Aside0.mk hr'
  have HS := Aside0.mk hs
  have HS2 := Aside0.mk hs'
  have HG := Aside0.mk hG
  have HH := Aside0.mk h
  have hm := Kd.C_max hr
  have hm2 := Kd.C_max hr'
  have HWB := Aside0.mk hWB
  have HWA := Aside0.mk hWA
  have hu := Tryd.underlying70
  have hu2 := Tryd.underlying62
  obtain ⟨n, hn⟩ : ∃ n, n = l.length := ⟨_, rfl⟩
  obtain ⟨n2, hn2⟩ : ∃ n, n = r.length := ⟨_, rfl⟩
  have HN : Aside0 (n = l.length ∧ n2 = r.length) := ⟨hn, hn2⟩
  rw [← hn] at hm c0 HWB HM ⊢
  rw [← hn2] at hm2 c1 HWB HM ⊢
  obtain ⟨N, hN⟩ : ∃ N, N = max n n2 := ⟨_, rfl⟩
  have HNN := Aside0.mk hN
  have hmax : (if (n : Int) < (n2 : Int) then (n2 : Int) else (n : Int)) = (N : Int) := by rw [hN]; split <;> omega
  have hmax2 : (if n < n2 then (n2 : Int) else (n : Int)) = (N : Int) := by rw [hN]; split <;> omega
  have hNm : N ≤ 9223372036854775807 := by rw [hN]; omega
  clear hr hr' hs hs' hG h hWB hWA z1 z2 z3 g1 g2 g3 g4 hB1 hB2 hMA hn hn2 hN
  go_enter Tryd.func51, Tryd.ntmps51
  rw [HWB.out] at c0 c1
  go_wp2
  try rw [hmax]
  try rw [hmax2]
  rw [← HWB.out, ← HWA.out]
  clear c0 c1 hmax hmax2
  go_loopw [19] (fun v19 wr => ∃ i : Nat, v19 = .int .i64 (i : Int) ∧ Aside0 (i ≤ N ∧ lsF l r (N - i) i = some res) ∧ Aside0 (Below w.heap.size w wr) ∧ Aside0 (MvI w A n c A2 n2 c' wr)) (fun v19 wr => N - mtI v19)
  case atStart => exact ⟨0, rfl, ⟨Nat.zero_le _, by rw [HNN.out, HN.out.1, HN.out.2]; exact HH.out⟩, HB, HM⟩
  case round =>
    clear HB HM HH HWA HWB
    obtain ⟨i, rfl, HI, HBR, HMR⟩ := hrel
    by_cases hi : i < N
    · have hd : decide ((i : Int) < (N : Int)) = true := decide_eq_true (by omega)
      have hi0 : (0 : Int) ≤ (i : Int) := by omega
      have HIN := Aside0.mk hi
      have hst : (fillT l r i).bind (fun x => (fillT r l i).bind fun y => if eqT x y = true then lsF l r (N - (i + 1)) (i + 1) else tkLess x.f0 x.f1 x.f2 y.f0 y.f1 y.f2) = some res := by
        have e : N - i = (N - (i + 1)) + 1 := by omega
        rw [← lsF_step, ← e]
        exact HI.out.2
      clear HI
      rcases Nat.lt_or_ge i n with hin | hin
      · have hl0 : i < l.length := by have := HN.out.1; omega
        have hia : (i : Int) < (n : Int) := by omega
        have hge : decide ((n : Int) ≤ (i : Int)) = false := decide_eq_false (by omega)
        have hge2 : decide (n ≤ i) = false := decide_eq_false (by omega)
        have hf1 : fillT l r i = some l[i] := by unfold fillT; rw [if_pos hl0, getD_at hl0]
        have hz0 := HS.out _ (List.getElem_mem hl0)
        rcases Nat.lt_or_ge i n2 with hin2 | hin2
        · have hl1 : i < r.length := by have := HN.out.2; omega
          have hib : (i : Int) < (n2 : Int) := by omega
          have hge3 : decide ((n2 : Int) ≤ (i : Int)) = false := decide_eq_false (by omega)
          have hge4 : decide (n2 ≤ i) = false := decide_eq_false (by omega)
          have hf2 : fillT r l i = some r[i] := by unfold fillT; rw [if_pos hl1, getD_at hl1]
          have hz1 := HS2.out _ (List.getElem_mem hl1)
          rw [hf1, hf2] at hst
          replace hst : (if eqT l[i] r[i] = true then lsF l r (N - (i + 1)) (i + 1) else tkLess (l[i]).f0 (l[i]).f1 (l[i]).f2 (r[i]).f0 (r[i]).f1 (r[i]).f2) = some res := hst
          obtain ⟨ad, rfl, x0, x1, x2⟩ := at_Tk (Kd.C_below HR.out HBR.out) i hl0 rfl
          obtain ⟨WL, hWL⟩ : ∃ W, W = st3 wr (w.heap.size + 1 + 1) (l[i]).f0 (l[i]).f1 (l[i]).f2 := ⟨_, rfl⟩
          have hBL : Below w.heap.size w WL := by rw [hWL]; exact st3_below HBR.out (by omega)
          obtain ⟨ad2, rfl, y0, y1, y2⟩ := at_Tk (Kd.C_below HR2.out hBL) i hl1 rfl
          have hML := HMR.out.left (l[i]).f0 (l[i]).f1 (l[i]).f2
          rw [← hWL] at hML
          obtain ⟨W1, hW1⟩ : ∃ W, W = st3 WL (w.heap.size + 1 + 1 + 1) (r[i]).f0 (r[i]).f1 (r[i]).f2 := ⟨_, rfl⟩
          have hBW : Below w.heap.size w W1 := by rw [hW1]; exact st3_below hBL (by omega)
          have hM1 := hML.right (r[i]).f0 (r[i]).f1 (r[i]).f2
          have hT : TokAt W1 (w.heap.size + 1 + 1) (l[i]).f0 (l[i]).f1 (l[i]).f2 := by
            obtain ⟨_, _, _, h3⟩ := HMR.out.bl
            rw [hW1, hWL]
            exact TokAt.of_block (st3_far (by omega) (st3_blk h3))
          have hU : TokAt W1 (w.heap.size + 1 + 1 + 1) (r[i]).f0 (r[i]).f1 (r[i]).f2 := by
            obtain ⟨_, _, _, h3⟩ := hML.br
            rw [hW1]
            exact TokAt.of_block (st3_blk h3)
          rw [← hW1] at hM1
          have q1 : wr.cell? ⟨w.heap.size, 0, none⟩ = some (.slice (some ad) n c) := (blk_cell HMR.out.b1 0).trans rfl
          have q2 : Aside0 (WL.cell? ⟨w.heap.size + 1, 0, none⟩ = some (.slice (some ad2) n2 c')) := ⟨(blk_cell hML.b2 0).trans rfl⟩
          obtain ⟨fL0, fL1, fL2⟩ := fz3 HMR.out.bl
          have HFR := Aside0.mk (fz3 hML.br)
          obtain ⟨pl, vl, ml, hbl⟩ := HMR.out.bl
          obtain ⟨c0, c1, c2⟩ := TokAt.of_block hbl
          have HRB : Aside0 (∃ pr vr mr, TokAt WL (w.heap.size + 1 + 1 + 1) pr vr mr) := ⟨by
            obtain ⟨pr, vr, mr, h3⟩ := hML.br
            exact ⟨pr, vr, mr, TokAt.of_block h3⟩⟩
          have HY := Aside0.mk (And.intro y0 (And.intro y1 y2))
          clear y0 y1 y2 hbl
          have HT := Aside0.mk hT
          have HU := Aside0.mk hU
          have HM1 := Aside0.mk hM1
          have HBW := Aside0.mk hBW
          have HQ : Aside0 (Calls Tryd.prog 57 #[.pointer (some ⟨w.heap.size + 1 + 1, 0, none⟩), .agg #[.string ((r[i])).f0, .string ((r[i])).f1, .bool ((r[i])).f2]] W1 (EqP (eqT (l[i]) (r[i])) W1)) := ⟨tk_equal ⟨w.heap.size + 1 + 1, 0, none⟩ _ _ _ _ _ W1 hT.c0 hT.c1⟩
          have HLL : Aside0 (∀ W, Below W1.heap.size W1 W → Calls Tryd.prog 35 #[.pointer (some ⟨w.heap.size + 1 + 1, 0, none⟩), .agg #[.string ((r[i])).f0, .string ((r[i])).f1, .bool ((r[i])).f2]] W (TlP (tkLess ((l[i])).f0 ((l[i])).f1 ((l[i])).f2 ((r[i])).f0 ((r[i])).f1 ((r[i])).f2) W)) := ⟨fun W hB => tk_less _ _ _ _ _ _ _ W (hT.below hB) hz0 hz1 (GW.below HG.out (hBW.trans (hB.mono hBW.size)))⟩
          have HST := Aside0.mk hst
          clear hT hU hM1 hBW hst hML hBL hz0 hz1 hf1 hf2
          generalize eqT (l[i]) (r[i]) = bb at HQ HST
          generalize tkLess ((l[i])).f0 ((l[i])).f1 ((l[i])).f2 ((r[i])).f0 ((r[i])).f1 ((r[i])).f2 = tl at HLL HST
          generalize ((l[i])).f0 = p at *
          generalize ((l[i])).f1 = v at *
          generalize ((l[i])).f2 = m at *
          generalize ((r[i])).f0 = q at *
          generalize ((r[i])).f1 = u at *
          generalize ((r[i])).f2 = m2 at *
          unfold st3 at hWL hW1
          have HWL := Aside0.mk hWL
          have HW1 := Aside0.mk hW1
          clear hWL hW1
          go_upto_region 13 with fail
          rw [← HWL.out]
          obtain ⟨y0, y1, y2⟩ := HY.out
          obtain ⟨fR0, fR1, fR2⟩ := HFR.out
          obtain ⟨pr, vr, mr, r0, r1, r2⟩ := HRB.out
          have q3 := q2.out
          clear q1 x0 x1 x2 fL0 fL1 fL2 c0 c1 c2 HY HFR HRB q2 HWL HMR
          go_upto_region 18 with fail
          rw [← HW1.out]
          obtain ⟨d0, d1, d2⟩ := HU.out
          clear y0 y1 y2 fR0 fR1 fR2 r0 r1 r2 q3
          go_wp2_with (go_at_call 57; (with_reducible refine (HQ.out).mono ?_))
          rintro e W2 ⟨rfl, hB2⟩
          obtain ⟨e0, e1, e2⟩ := HU.out.below hB2
          have HC := Aside0.mk (HLL.out W2 hB2)
          have HB2 : Aside0 (Below w.heap.size w W2) := ⟨HBW.out.trans (hB2.mono HBW.out.size)⟩
          have HM2 := Aside0.mk (HM1.out.below hB2)
          clear hB2 HQ HLL d0 d1 d2
          cases bb with
          | true =>
            have HF : Aside0 (lsF l r (N - (i + 1)) (i + 1) = some res) := ⟨HST.out⟩
            go_wp2
            go_roundw
            case rel => exact ⟨i + 1, by go_num, ⟨HIN.out, HF.out⟩, HB2, HM2⟩
            case measure =>
              have := HIN.out
              show N - mtI _ < N - mtI _
              simp only [mtI]
              omega
          | false =>
            have HF : Aside0 (tl = some res) := ⟨HST.out⟩
            go_wp2_with (go_at_call 35; (with_reducible refine (HC.out).mono ?_))
            rintro e W3 ⟨hB3, hr3⟩
            have HB3 : Aside0 (Below w.heap.size w W3) := ⟨HB2.out.trans (hB3.mono HB2.out.size)⟩
            clear hB3
            rcases hr3 with ⟨hn, a, rfl⟩ | ⟨x, hx, rfl⟩
            · exact absurd (hn.symm.trans HF.out) (by simp)
            · obtain rfl : x = res := Option.some.inj (hx.symm.trans HF.out)
              clear hx
              go_wp2
              go_ret2
              exact ⟨rfl, HB3.out⟩
        · skip
          have hge3 : decide ((n2 : Int) ≤ (i : Int)) = true := decide_eq_true (by omega)
          have hge4 : decide (n2 ≤ i) = true := decide_eq_true hin2
          have hf2 : fillT r l i = nullT l[i] := by unfold fillT; rw [if_neg (by have := HN.out.2; omega), getD_at hl0]
          rw [hf1, hf2] at hst
          replace hst : (nullT l[i]).bind (fun y => if eqT l[i] y = true then lsF l r (N - (i + 1)) (i + 1) else tkLess (l[i]).f0 (l[i]).f1 (l[i]).f2 y.f0 y.f1 y.f2) = some res := hst
          obtain ⟨z, hz, hst2⟩ := Option.bind_eq_some_iff.1 hst
          clear hst
          obtain ⟨ad, rfl, x0, x1, x2⟩ := at_Tk (Kd.C_below HR.out HBR.out) i hl0 rfl
          have HXW : Aside0 (∀ W, Below w.heap.size w W → W.cell? (ad.add (i * 3)) = some (.string (l[i]).f0) ∧ W.cell? ⟨(ad.add (i * 3)).block, (ad.add (i * 3)).off + 1, none⟩ = some (.string (l[i]).f1) ∧ W.cell? ⟨(ad.add (i * 3)).block, (ad.add (i * 3)).off + 2, none⟩ = some (.bool (l[i]).f2)) := ⟨fun W hB => by
            obtain ⟨ad', e, a, b, d⟩ := at_Tk (Kd.C_below HR.out hB) i hl0 rfl
            cases e
            exact ⟨a, b, d⟩⟩
          have hNU : Aside0 (∀ W, Calls Tryd.prog 58 #[.agg #[.string (l[i]).f0, .string (l[i]).f1, .bool (l[i]).f2]] W (NulP z.f0 z.f1 z.f2 W)) := ⟨fun W => nul_tok _ _ _ z W hz⟩
          have hz1 := nullT_sz hz
          clear hf1 hf2 hz
          generalize l[i] = x at *
          have hst := hst2
          clear hst2
          obtain ⟨WL, hWL⟩ : ∃ W, W = st3 wr (w.heap.size + 1 + 1) x.f0 x.f1 x.f2 := ⟨_, rfl⟩
          have hBL : Below w.heap.size w WL := by rw [hWL]; exact st3_below HBR.out (by omega)
          have hML := HMR.out.left x.f0 x.f1 x.f2
          obtain ⟨pl, vl, ml, hbl⟩ := HMR.out.bl
          have hbL : WL.heap[w.heap.size + 1 + 1]? = some (.cells #[.string x.f0, .string x.f1, .bool x.f2] 70 (0, 0)) := by rw [hWL]; exact st3_blk hbl
          rw [← hWL] at hML
          have q1 : wr.cell? ⟨w.heap.size, 0, none⟩ = some (.slice (some ad) n c) := (blk_cell HMR.out.b1 0).trans rfl
          have HQ3 : Aside0 (WL.cell? ⟨w.heap.size + 1, 0, none⟩ = some (.slice A2 n2 c')) := ⟨(blk_cell hML.b2 0).trans rfl⟩
          have HQ4 : Aside0 (WL.cell? ⟨w.heap.size, 0, none⟩ = some (.slice (some ad) n c)) := ⟨(blk_cell hML.b1 0).trans rfl⟩
          obtain ⟨fL0, fL1, fL2⟩ := fz3 HMR.out.bl
          obtain ⟨c0, c1, c2⟩ := TokAt.of_block hbl
          have HML := Aside0.mk hML
          have HBL := Aside0.mk hBL
          have HbL := Aside0.mk hbL
          unfold st3 at hWL
          have HWL := Aside0.mk hWL
          clear hbl hWL hML hBL hbL
          go_upto_region 13 with fail
          rw [← HWL.out]
          obtain ⟨y0, y1, y2⟩ := HXW.out WL HBL.out
          have k3 := HQ3.out
          have k4 := HQ4.out
          clear q1 x0 x1 x2 fL0 fL1 fL2 c0 c1 c2 HQ3 HQ4 HWL HMR HXW
          go_wp2_with (go_at_call 58; (with_reducible refine (hNU.out _).mono ?_))
          rintro e W0 ⟨rfl, hB0⟩
          have hM0 := HML.out.below hB0
          obtain ⟨fR0, fR1, fR2⟩ := fz3 hM0.br
          obtain ⟨pr, vr, mr, hbr⟩ := hM0.br
          obtain ⟨r0, r1, r2⟩ := TokAt.of_block hbr
          obtain ⟨W1, hW1⟩ : ∃ W, W = st3 W0 (w.heap.size + 1 + 1 + 1) z.f0 z.f1 z.f2 := ⟨_, rfl⟩
          have hBW : Below w.heap.size w W1 := by rw [hW1]; exact st3_below (HBL.out.trans (hB0.mono HBL.out.size)) (by omega)
          have hM1 := hM0.right z.f0 z.f1 z.f2
          rw [← hW1] at hM1
          have hT : TokAt W1 (w.heap.size + 1 + 1) x.f0 x.f1 x.f2 := by rw [hW1]; exact TokAt.of_block (st3_far (by omega) (blk_keep hB0 HbL.out))
          have hU : TokAt W1 (w.heap.size + 1 + 1 + 1) z.f0 z.f1 z.f2 := by rw [hW1]; exact TokAt.of_block (st3_blk hbr)
          have hML := hM0
          have hBL := HBL.out
          clear k3 k4 y0 y1 y2 hB0 hbr hNU HML HbL hM0
          have HT := Aside0.mk hT
          have HU := Aside0.mk hU
          have HM1 := Aside0.mk hM1
          have HBW := Aside0.mk hBW
          have HQ : Aside0 (Calls Tryd.prog 57 #[.pointer (some ⟨w.heap.size + 1 + 1, 0, none⟩), .agg #[.string z.f0, .string z.f1, .bool z.f2]] W1 (EqP (eqT x z) W1)) := ⟨tk_equal ⟨w.heap.size + 1 + 1, 0, none⟩ _ _ _ _ _ W1 hT.c0 hT.c1⟩
          have HLL : Aside0 (∀ W, Below W1.heap.size W1 W → Calls Tryd.prog 35 #[.pointer (some ⟨w.heap.size + 1 + 1, 0, none⟩), .agg #[.string z.f0, .string z.f1, .bool z.f2]] W (TlP (tkLess x.f0 x.f1 x.f2 z.f0 z.f1 z.f2) W)) := ⟨fun W hB => tk_less _ _ _ _ _ _ _ W (hT.below hB) hz0 hz1 (GW.below HG.out (hBW.trans (hB.mono hBW.size)))⟩
          have HST := Aside0.mk hst
          clear hT hU hM1 hBW hst hML hBL hz0 hz1
          generalize eqT x z = bb at HQ HST
          generalize tkLess x.f0 x.f1 x.f2 z.f0 z.f1 z.f2 = tl at HLL HST
          generalize x.f0 = p at *
          generalize x.f1 = v at *
          generalize x.f2 = m at *
          generalize z.f0 = q at *
          generalize z.f1 = u at *
          generalize z.f2 = m2 at *
          unfold st3 at hW1
          have HW1 := Aside0.mk hW1
          clear hW1
          go_upto_region 18 with fail
          rw [← HW1.out]
          obtain ⟨d0, d1, d2⟩ := HU.out
          clear fR0 fR1 fR2 r0 r1 r2
          go_wp2_with (go_at_call 57; (with_reducible refine (HQ.out).mono ?_))
          rintro e W2 ⟨rfl, hB2⟩
          obtain ⟨e0, e1, e2⟩ := HU.out.below hB2
          have HC := Aside0.mk (HLL.out W2 hB2)
          have HB2 : Aside0 (Below w.heap.size w W2) := ⟨HBW.out.trans (hB2.mono HBW.out.size)⟩
          have HM2 := Aside0.mk (HM1.out.below hB2)
          clear hB2 HQ HLL d0 d1 d2
          cases bb with
          | true =>
            have HF : Aside0 (lsF l r (N - (i + 1)) (i + 1) = some res) := ⟨HST.out⟩
            go_wp2
            go_roundw
            case rel => exact ⟨i + 1, by go_num, ⟨HIN.out, HF.out⟩, HB2, HM2⟩
            case measure =>
              have := HIN.out
              show N - mtI _ < N - mtI _
              simp only [mtI]
              omega
          | false =>
            have HF : Aside0 (tl = some res) := ⟨HST.out⟩
            go_wp2_with (go_at_call 35; (with_reducible refine (HC.out).mono ?_))
            rintro e W3 ⟨hB3, hr3⟩
            have HB3 : Aside0 (Below w.heap.size w W3) := ⟨HB2.out.trans (hB3.mono HB2.out.size)⟩
            clear hB3
            rcases hr3 with ⟨hn, a, rfl⟩ | ⟨x, hx, rfl⟩
            · exact absurd (hn.symm.trans HF.out) (by simp)
            · obtain rfl : x = res := Option.some.inj (hx.symm.trans HF.out)
              clear hx
              go_wp2
              go_ret2
              exact ⟨rfl, HB3.out⟩
      · skip
        have hin2 : i < n2 := by have := HNN.out; omega
        have hl1 : i < r.length := by have := HN.out.2; omega
        have hib : (i : Int) < (n2 : Int) := by omega
        have hge : decide ((n : Int) ≤ (i : Int)) = true := decide_eq_true (by omega)
        have hge2 : decide (n ≤ i) = true := decide_eq_true hin
        have hge3 : decide ((n2 : Int) ≤ (i : Int)) = false := decide_eq_false (by omega)
        have hge4 : decide (n2 ≤ i) = false := decide_eq_false (by omega)
        have hf1 : fillT l r i = nullT r[i] := by unfold fillT; rw [if_neg (by have := HN.out.1; omega), getD_at hl1]
        have hf2 : fillT r l i = some r[i] := by unfold fillT; rw [if_pos hl1, getD_at hl1]
        have hz1 := HS2.out _ (List.getElem_mem hl1)
        rw [hf1, hf2] at hst
        replace hst : (nullT r[i]).bind (fun x => if eqT x r[i] = true then lsF l r (N - (i + 1)) (i + 1) else tkLess x.f0 x.f1 x.f2 (r[i]).f0 (r[i]).f1 (r[i]).f2) = some res := hst
        obtain ⟨z, hz, hst2⟩ := Option.bind_eq_some_iff.1 hst
        clear hst
        obtain ⟨ad2, rfl, y0, y1, y2⟩ := at_Tk (Kd.C_below HR2.out HBR.out) i hl1 rfl
        have HYW : Aside0 (∀ W, Below w.heap.size w W → W.cell? (ad2.add (i * 3)) = some (.string (r[i]).f0) ∧ W.cell? ⟨(ad2.add (i * 3)).block, (ad2.add (i * 3)).off + 1, none⟩ = some (.string (r[i]).f1) ∧ W.cell? ⟨(ad2.add (i * 3)).block, (ad2.add (i * 3)).off + 2, none⟩ = some (.bool (r[i]).f2)) := ⟨fun W hB => by
          obtain ⟨ad', e, a, b, d⟩ := at_Tk (Kd.C_below HR2.out hB) i hl1 rfl
          cases e
          exact ⟨a, b, d⟩⟩
        have hNU : Aside0 (∀ W, Calls Tryd.prog 58 #[.agg #[.string (r[i]).f0, .string (r[i]).f1, .bool (r[i]).f2]] W (NulP z.f0 z.f1 z.f2 W)) := ⟨fun W => nul_tok _ _ _ z W hz⟩
        have hz0 := nullT_sz hz
        clear hf1 hf2 hz
        generalize r[i] = y at *
        have hst := hst2
        clear hst2
        have q1 : wr.cell? ⟨w.heap.size, 0, none⟩ = some (.slice A n c) := (blk_cell HMR.out.b1 0).trans rfl
        have q2 : wr.cell? ⟨w.heap.size + 1, 0, none⟩ = some (.slice (some ad2) n2 c') := (blk_cell HMR.out.b2 0).trans rfl
        go_wp2_with (go_at_call 58; (with_reducible refine (hNU.out _).mono ?_))
        rintro e W0 ⟨rfl, hB0⟩
        have hM0 := HMR.out.below hB0
        have hB00 : Below w.heap.size w W0 := HBR.out.trans (hB0.mono HBR.out.size)
        obtain ⟨fL0, fL1, fL2⟩ := fz3 hM0.bl
        obtain ⟨pl, vl, ml, hbl⟩ := hM0.bl
        obtain ⟨c0, c1, c2⟩ := TokAt.of_block hbl
        obtain ⟨WL, hWL⟩ : ∃ W, W = st3 W0 (w.heap.size + 1 + 1) z.f0 z.f1 z.f2 := ⟨_, rfl⟩
        have hBL : Below w.heap.size w WL := by rw [hWL]; exact st3_below hB00 (by omega)
        have hML := hM0.left z.f0 z.f1 z.f2
        have hbL : WL.heap[w.heap.size + 1 + 1]? = some (.cells #[.string z.f0, .string z.f1, .bool z.f2] 70 (0, 0)) := by rw [hWL]; exact st3_blk hbl
        rw [← hWL] at hML
        have HQ3 : Aside0 (WL.cell? ⟨w.heap.size + 1, 0, none⟩ = some (.slice (some ad2) n2 c')) := ⟨(blk_cell hML.b2 0).trans rfl⟩
        have HFR := Aside0.mk (fz3 hML.br)
        have HY := Aside0.mk (HYW.out WL hBL)
        obtain ⟨pr, vr, mr, hbr⟩ := hML.br
        have HRB : Aside0 (TokAt WL (w.heap.size + 1 + 1 + 1) pr vr mr) := ⟨TokAt.of_block hbr⟩
        obtain ⟨W1, hW1⟩ : ∃ W, W = st3 WL (w.heap.size + 1 + 1 + 1) y.f0 y.f1 y.f2 := ⟨_, rfl⟩
        have hBW : Below w.heap.size w W1 := by rw [hW1]; exact st3_below hBL (by omega)
        have hM1 := hML.right y.f0 y.f1 y.f2
        rw [← hW1] at hM1
        have hT : TokAt W1 (w.heap.size + 1 + 1) z.f0 z.f1 z.f2 := by rw [hW1]; exact TokAt.of_block (st3_far (by omega) hbL)
        have hU : TokAt W1 (w.heap.size + 1 + 1 + 1) y.f0 y.f1 y.f2 := by rw [hW1]; exact TokAt.of_block (st3_blk hbr)
        clear q1 q2 y0 y1 y2 hB0 hB00 hM0 hbl hbr hbL hNU HYW HMR
        have HT := Aside0.mk hT
        have HU := Aside0.mk hU
        have HM1 := Aside0.mk hM1
        have HBW := Aside0.mk hBW
        have HQ : Aside0 (Calls Tryd.prog 57 #[.pointer (some ⟨w.heap.size + 1 + 1, 0, none⟩), .agg #[.string y.f0, .string y.f1, .bool y.f2]] W1 (EqP (eqT z y) W1)) := ⟨tk_equal ⟨w.heap.size + 1 + 1, 0, none⟩ _ _ _ _ _ W1 hT.c0 hT.c1⟩
        have HLL : Aside0 (∀ W, Below W1.heap.size W1 W → Calls Tryd.prog 35 #[.pointer (some ⟨w.heap.size + 1 + 1, 0, none⟩), .agg #[.string y.f0, .string y.f1, .bool y.f2]] W (TlP (tkLess z.f0 z.f1 z.f2 y.f0 y.f1 y.f2) W)) := ⟨fun W hB => tk_less _ _ _ _ _ _ _ W (hT.below hB) hz0 hz1 (GW.below HG.out (hBW.trans (hB.mono hBW.size)))⟩
        have HST := Aside0.mk hst
        clear hT hU hM1 hBW hst hML hBL hz0 hz1
        generalize eqT z y = bb at HQ HST
        generalize tkLess z.f0 z.f1 z.f2 y.f0 y.f1 y.f2 = tl at HLL HST
        generalize z.f0 = p at *
        generalize z.f1 = v at *
        generalize z.f2 = m at *
        generalize y.f0 = q at *
        generalize y.f1 = u at *
        generalize y.f2 = m2 at *
        unfold st3 at hWL hW1
        have HWL := Aside0.mk hWL
        have HW1 := Aside0.mk hW1
        clear hWL hW1
        go_upto_region 13 with fail
        rw [← HWL.out]
        obtain ⟨y0, y1, y2⟩ := HY.out
        obtain ⟨fR0, fR1, fR2⟩ := HFR.out
        obtain ⟨r0, r1, r2⟩ := HRB.out
        have q3 := HQ3.out
        clear fL0 fL1 fL2 c0 c1 c2 HY HFR HRB HQ3 HWL
        go_upto_region 18 with fail
        rw [← HW1.out]
        obtain ⟨d0, d1, d2⟩ := HU.out
        clear y0 y1 y2 fR0 fR1 fR2 r0 r1 r2 q3
        go_wp2_with (go_at_call 57; (with_reducible refine (HQ.out).mono ?_))
        rintro e W2 ⟨rfl, hB2⟩
        obtain ⟨e0, e1, e2⟩ := HU.out.below hB2
        have HC := Aside0.mk (HLL.out W2 hB2)
        have HB2 : Aside0 (Below w.heap.size w W2) := ⟨HBW.out.trans (hB2.mono HBW.out.size)⟩
        have HM2 := Aside0.mk (HM1.out.below hB2)
        clear hB2 HQ HLL d0 d1 d2
        cases bb with
        | true =>
          have HF : Aside0 (lsF l r (N - (i + 1)) (i + 1) = some res) := ⟨HST.out⟩
          go_wp2
          go_roundw
          case rel => exact ⟨i + 1, by go_num, ⟨HIN.out, HF.out⟩, HB2, HM2⟩
          case measure =>
            have := HIN.out
            show N - mtI _ < N - mtI _
            simp only [mtI]
            omega
        | false =>
          have HF : Aside0 (tl = some res) := ⟨HST.out⟩
          go_wp2_with (go_at_call 35; (with_reducible refine (HC.out).mono ?_))
          rintro e W3 ⟨hB3, hr3⟩
          have HB3 : Aside0 (Below w.heap.size w W3) := ⟨HB2.out.trans (hB3.mono HB2.out.size)⟩
          clear hB3
          rcases hr3 with ⟨hn, a, rfl⟩ | ⟨x, hx, rfl⟩
          · exact absurd (hn.symm.trans HF.out) (by simp)
          · obtain rfl : x = res := Option.some.inj (hx.symm.trans HF.out)
            clear hx
            go_wp2
            go_ret2
            exact ⟨rfl, HB3.out⟩
    · have hd : decide ((i : Int) < (N : Int)) = false := decide_eq_false (by omega)
      have HE : Aside0 (res = false) := ⟨by
        have h1 := HI.out.2
        have e : N - i = 0 := by omega
        rw [e] at h1
        exact (Option.some.inj h1).symm⟩
      go_wp2
      go_ret2
      exact ⟨by first | (rw [HE.out]; done) | (rw [HE.out]; rfl), HBR.out⟩
structure CmP (r : Int) (w : World) (e : Ending) (w' : World) : Prop where
  h1 : e = .returned (.tuple #[.int .i64 r, .nilIface])
  h2 : Below w.heap.size w w'
set_option maxRecDepth 100000 in
set_option maxHeartbeats 4000000 in
theorem mv_cmp (A : Option Addr) (c : Nat) (l : List MT) (A2 : Option Addr) (c' : Nat) (r : List MT) (rs : Int) (w : World) (hr : Kd.C k70 w A l.length l) (hr' : Kd.C k70 w A2 r.length r) (hs : ∀ x ∈ l, x.f1.size ≤ 1000000) (hs' : ∀ x ∈ r, x.f1.size ≤ 1000000) (hG : GW w) (h : cmM l r = some rs) :
    Calls Tryd.prog 41 #[.agg #[.slice A l.length c], .agg #[.slice A2 r.length c']] w (CmP rs w) := by
  obtain ⟨WA, hWA⟩ : ∃ WA, WA = (w.alloc (.cells #[.slice A l.length c] 62)).alloc (.cells #[.slice A2 r.length c'] 62) := ⟨_, rfl⟩
  have e1 : (w.alloc (.cells #[.slice A l.length c] 62)).heap.size = w.heap.size + 1 := by simp
  have g1 : WA.heap[w.heap.size]? = some (.cells #[.slice A l.length c] 62 (0, 0)) := by
    rw [hWA]
    exact (((Below.refl _ (w.alloc (.cells #[.slice A l.length c] 62))).alloc (Nat.le_refl _) _).block w.heap.size (by simp)).trans (blk_new w _)
  have g2 : WA.heap[w.heap.size + 1]? = some (.cells #[.slice A2 r.length c'] 62 (0, 0)) := by
    rw [hWA, ← e1]
    exact blk_new _ _
  have hBA : Below w.heap.size w WA := by rw [hWA]; exact ((Below.refl _ w).alloc (Nat.le_refl _) _).alloc (by simp) _
  have hk : Aside0 (∀ W, Below WA.heap.size WA W → W.cell? ⟨w.heap.size, 0, none⟩ = some (.slice A l.length c) ∧ W.cell? ⟨w.heap.size + 1, 0, none⟩ = some (.slice A2 r.length c')) := ⟨fun W hB => ⟨tk_cell hB ((blk_cell g1 0).trans rfl), tk_cell hB ((blk_cell g2 0).trans rfl)⟩⟩
  obtain ⟨c0, c1⟩ := hk.out WA (Below.refl _ _)
  have HB := Aside0.mk hBA
  have HW := Aside0.mk hWA
  have hu2 := Tryd.underlying62
  have H1 := Aside0.mk (mv_equal A c l A2 c' r WA (Kd.C_below hr hBA) (Kd.C_below hr' hBA))
  have H2 : Aside0 (∀ W b, lsM l r = some b → Below WA.heap.size WA W → Calls Tryd.prog 51 #[.agg #[.slice A l.length c], .agg #[.slice A2 r.length c']] W (LsP b W)) := ⟨fun W b hb hB => mv_less A c l A2 c' r b W (Kd.C_below (Kd.C_below hr hBA) hB) (Kd.C_below (Kd.C_below hr' hBA) hB) hs hs' (GW.below (GW.below hG hBA) hB) hb⟩
  have HH := Aside0.mk h
  obtain ⟨n, hn⟩ : ∃ n, n = l.length := ⟨_, rfl⟩
  obtain ⟨n2, hn2⟩ : ∃ n, n = r.length := ⟨_, rfl⟩
  have HC : Aside0 (cmM l r = if eqM l r = true then some 0 else (lsM l r).bind fun b => some (if b = true then -1 else 1)) := ⟨rfl⟩
  rw [← hn] at c0 hk HW H1 H2 ⊢
  rw [← hn2] at c1 hk HW H1 H2 ⊢
  clear hr hr' hs hs' hG h hBA hWA e1 g1 g2 hn hn2
  generalize eqM l r = eb at H1 HC
  cases eb with
  | true =>
    have HF : Aside0 (rs = 0) := ⟨Option.some.inj (HH.out.symm.trans HC.out)⟩
    clear H2 HH HC hk
    go_enter Tryd.func41, Tryd.ntmps41
    rw [HW.out] at c0 c1
    go_wp2_with (go_at_call 50; rw [← HW.out]; (with_reducible refine (H1.out).mono ?_))
    rintro e W1 ⟨rfl, hB1⟩
    have HB1 : Aside0 (Below w.heap.size w W1) := ⟨HB.out.trans (hB1.mono HB.out.size)⟩
    clear hB1 c0 c1 H1
    go_wp2
    go_ret2
    exact ⟨by first | (rw [HF.out]; done) | (rw [HF.out]; rfl), HB1.out⟩
  | false =>
    have h2 : (lsM l r).bind (fun b => some (if b = true then -1 else 1)) = some rs := HC.out.symm.trans HH.out
    obtain ⟨b, hb, hrs⟩ := Option.bind_eq_some_iff.1 h2
    have HL := Aside0.mk hb
    have HF : Aside0 (rs = if b = true then -1 else 1) := ⟨(Option.some.inj hrs).symm⟩
    clear h2 hb hrs HH HC
    go_enter Tryd.func41, Tryd.ntmps41
    rw [HW.out] at c0 c1
    go_wp2_with (go_at_call 50; rw [← HW.out]; (with_reducible refine (H1.out).mono ?_))
    rintro e W1 ⟨rfl, hB1⟩
    obtain ⟨d0, d1⟩ := hk.out W1 hB1
    have H3 := Aside0.mk (H2.out W1 b HL.out hB1)
    have HB1 : Aside0 (Below w.heap.size w W1) := ⟨HB.out.trans (hB1.mono HB.out.size)⟩
    clear hB1 c0 c1 H1 H2 hk HL
    go_wp2_with (go_at_call 51; (with_reducible refine (H3.out).mono ?_))
    rintro e W2 ⟨rfl, hB2⟩
    have HB2 : Aside0 (Below w.heap.size w W2) := ⟨HB1.out.trans (hB2.mono HB1.out.size)⟩
    clear hB2 d0 d1 H3
    cases b with
    | true =>
      go_wp2
      go_ret2
      exact ⟨by first | (rw [HF.out]; done) | (rw [HF.out]; rfl), HB2.out⟩
    | false =>
      go_wp2
      go_ret2
      exact ⟨by first | (rw [HF.out]; done) | (rw [HF.out]; rfl), HB2.out⟩
set_option maxRecDepth 100000 in
set_option maxHeartbeats 4000000 in
theorem mv_zz (A : Option Addr) (c : Nat) (l : List MT) (A2 : Option Addr) (c' : Nat) (r : List MT) (rs : Int) (w : World) (hr : Kd.C k70 w A l.length l) (hr' : Kd.C k70 w A2 r.length r) (hs : ∀ x ∈ l, x.f1.size ≤ 1000000) (hs' : ∀ x ∈ r, x.f1.size ≤ 1000000) (hG : GW w) (h : cmM l r = some rs) :
    Calls Tryd.prog 28 #[.agg #[.slice A l.length c], .agg #[.slice A2 r.length c']] w (CmP rs w) := by
  obtain ⟨WA, hWA⟩ : ∃ WA, WA = (w.alloc (.cells #[.slice A l.length c] 62)).alloc (.cells #[.slice A2 r.length c'] 62) := ⟨_, rfl⟩
  have e1 : (w.alloc (.cells #[.slice A l.length c] 62)).heap.size = w.heap.size + 1 := by simp
  have g1 : WA.heap[w.heap.size]? = some (.cells #[.slice A l.length c] 62 (0, 0)) := by
    rw [hWA]
    exact (((Below.refl _ (w.alloc (.cells #[.slice A l.length c] 62))).alloc (Nat.le_refl _) _).block w.heap.size (by simp)).trans (blk_new w _)
  have g2 : WA.heap[w.heap.size + 1]? = some (.cells #[.slice A2 r.length c'] 62 (0, 0)) := by
    rw [hWA, ← e1]
    exact blk_new _ _
  have hBA : Below w.heap.size w WA := by rw [hWA]; exact ((Below.refl _ w).alloc (Nat.le_refl _) _).alloc (by simp) _
  have hk : Aside0 (∀ W, Below WA.heap.size WA W → W.cell? ⟨w.heap.size, 0, none⟩ = some (.slice A l.length c) ∧ W.cell? ⟨w.heap.size + 1, 0, none⟩ = some (.slice A2 r.length c')) := ⟨fun W hB => ⟨tk_cell hB ((blk_cell g1 0).trans rfl), tk_cell hB ((blk_cell g2 0).trans rfl)⟩⟩
  obtain ⟨c0, c1⟩ := hk.out WA (Below.refl _ _)
  have HB := Aside0.mk hBA
  have HW := Aside0.mk hWA
  have hu2 := Tryd.underlying62
  have H1 := Aside0.mk (mv_cmp A c l A2 c' r rs WA (Kd.C_below hr hBA) (Kd.C_below hr' hBA) hs hs' (GW.below hG hBA) h)
  obtain ⟨n, hn⟩ : ∃ n, n = l.length := ⟨_, rfl⟩
  obtain ⟨n2, hn2⟩ : ∃ n, n = r.length := ⟨_, rfl⟩
  rw [← hn] at c0 HW H1 ⊢
  rw [← hn2] at c1 HW H1 ⊢
  clear hr hr' hs hs' hG h hBA hWA e1 g1 g2 hn hn2 hk
  go_enter Tryd.func28, Tryd.ntmps28
  rw [HW.out] at c0 c1
  go_wp2_with (go_at_call 41; rw [← HW.out]; (with_reducible refine (H1.out).mono ?_))
  rintro e W1 ⟨rfl, hB1⟩
  have HB1 : Aside0 (Below w.heap.size w W1) := ⟨HB.out.trans (hB1.mono HB.out.size)⟩
  clear hB1 c0 c1 H1
  go_wp2
  go_ret2
  exact ⟨rfl, HB1.out⟩
def fitT (l : List MT) : Bool := l.all fun x => decide (x.f1.size ≤ 1000000)
theorem fitT_of {l : List MT} (h : fitT l = true) : ∀ x ∈ l, x.f1.size ≤ 1000000 := fun x hx => of_decide_eq_true (List.all_eq_true.1 h x hx)
def impl_MavenCompare.f (k : Nat) (l0 l1 : List S23) : Option (Int × Bool) := (impl_maven.f k l0).bind fun x => (impl_maven.f k l1).bind fun y => if (fitT x && fitT y) = true then (cmM x y).bind fun r => some (r, true) else none
theorem impl_MavenCompare.mono : ∀ a0 a1 k, LeO (impl_MavenCompare.f k a0 a1) (impl_MavenCompare.f (k + 1) a0 a1) := by
  intro a0 a1 k
  unfold impl_MavenCompare.f
  exact LeO.bind (impl_maven.mono _ _) (fun _ => LeO.bind (impl_maven.mono _ _) (fun _ => LeO.refl _))
structure MvP (xs : List MT) (w : World) (e : Ending) (w' : World) : Prop where
  h : ∃ v, e = .returned (.agg #[v]) ∧ Kd.R k70 70 w' w.heap.size (fun _ => True) v xs ∧ Below w.heap.size w w'
set_option maxRecDepth 100000 in
set_option maxHeartbeats 4000000 in
theorem impl_MavenCompare.calls (k : Nat) (A0 : Option Addr) (c0 : Nat) (l0 : List S23) (A1 : Option Addr) (c1 : Nat) (l1 : List S23) (r1 : Int) (r2 : Bool) (w : World) (hr0 : Kd.C k23 w A0 l0.length l0) (hc0 : l0.length ≤ c0) (hr1 : Kd.C k23 w A1 l1.length l1) (hc1 : l1.length ≤ c1) (hG : GW w) (h : impl_MavenCompare.f k l0 l1 = some (r1, r2)) :
    Calls Tryd.prog 14 #[.slice A0 l0.length c0, .slice A1 l1.length c1] w fun e w' => e = .returned (.tuple #[.int .i64 r1, .bool r2]) ∧ Below w.heap.size w w' := by
  unfold impl_MavenCompare.f at h
  obtain ⟨xs, hx, h2⟩ := Option.bind_eq_some_iff.1 h
  clear h
  obtain ⟨ys, hy, h3⟩ := Option.bind_eq_some_iff.1 h2
  clear h2
  cases hf : (fitT xs && fitT ys) with
  | false => rw [if_neg (by simp only [hf]; exact Bool.false_ne_true)] at h3; cases h3
  | true =>
    rw [if_pos hf] at h3
    obtain ⟨rs, hrs, h4⟩ := Option.bind_eq_some_iff.1 h3
    clear h3
    simp only [Option.some.injEq, Prod.mk.injEq] at h4
    obtain ⟨rfl, rfl⟩ := h4
    rw [Bool.and_eq_true] at hf
    have HX : Aside0 (∀ W, Below w.heap.size w W → Calls Tryd.prog 29 #[.slice A0 l0.length c0] W (MvP xs W)) := ⟨fun W hB => (impl_maven.calls k A0 c0 l0 xs W (Kd.C_below hr0 hB) hc0 hx).mono fun e w' h => ⟨h⟩⟩
    have HY : Aside0 (∀ W, Below w.heap.size w W → Calls Tryd.prog 29 #[.slice A1 l1.length c1] W (MvP ys W)) := ⟨fun W hB => (impl_maven.calls k A1 c1 l1 ys W (Kd.C_below hr1 hB) hc1 hy).mono fun e w' h => ⟨h⟩⟩
    have HZ : Aside0 (∀ X a Y b W, Kd.C k70 W X xs.length xs → Kd.C k70 W Y ys.length ys → Below w.heap.size w W → Calls Tryd.prog 28 #[.agg #[.slice X xs.length a], .agg #[.slice Y ys.length b]] W (CmP rs W)) := ⟨fun X a Y b W h1 h2 hB => mv_zz X a xs Y b ys rs W h1 h2 (fitT_of hf.1) (fitT_of hf.2) (GW.below hG hB) hrs⟩
    obtain ⟨m0, hm0⟩ : ∃ m, m = l0.length := ⟨_, rfl⟩
    obtain ⟨m1, hm1⟩ : ∃ m, m = l1.length := ⟨_, rfl⟩
    rw [← hm0] at HX ⊢
    rw [← hm1] at HY ⊢
    have HX1 := Aside0.mk (HX.out w (Below.refl _ _))
    clear hx hy hf hrs hr0 hr1 hc0 hc1 hG hm0 hm1 HX
    go_enter Tryd.func14, Tryd.ntmps14
    go_wp2_with (go_at_call 29; (with_reducible refine (HX1.out).mono ?_))
    rintro e W1 ⟨⟨v, rfl, hv, hB1⟩⟩
    obtain ⟨X, a, rfl, hca, hra⟩ := Kd.R_reads hv
    have HY1 := Aside0.mk (HY.out W1 hB1)
    have HRA := Aside0.mk hra
    have HB1 := Aside0.mk hB1
    clear hv hca hra hB1 HX1 HY
    go_wp2_with (go_at_call 29; (with_reducible refine (HY1.out).mono ?_))
    rintro e W2 ⟨⟨v, rfl, hv, hB2⟩⟩
    obtain ⟨Y, b, rfl, hcb, hrb⟩ := Kd.R_reads hv
    have HB2 : Aside0 (Below w.heap.size w W2) := ⟨HB1.out.trans (hB2.mono HB1.out.size)⟩
    have HC := Aside0.mk (HZ.out X a Y b W2 (Kd.C_below HRA.out hB2) hrb HB2.out)
    clear hv hcb hrb hB2 HY1 HRA HZ HB1
    go_wp2_with (go_at_call 28; (with_reducible refine (HC.out).mono ?_))
    rintro e W3 ⟨rfl, hB3⟩
    have HB3 : Aside0 (Below w.heap.size w W3) := ⟨HB2.out.trans (hB3.mono HB2.out.size)⟩
    clear hB3 HC HB2
    go_wp2
    go_quiet (fail)
    go_wp2
    go_ret2
    exact ⟨rfl, by first | exact HB3.out | exact pw_below_drewN HB3.out _⟩

end Go.Proofs.YtondnpfncgcdkaaDoor.Z
