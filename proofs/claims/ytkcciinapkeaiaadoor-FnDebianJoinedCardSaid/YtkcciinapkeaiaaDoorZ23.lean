-- Written by a program of this session (myprint.py).
import Derived.Test.YtkcciinapkeaiaaDoorZ0
import Derived.Test.YtkcciinapkeaiaaDoorZ3
import Derived.Test.YtkcciinapkeaiaaDoorZ6
import Derived.Test.YtkcciinapkeaiaaDoorZ11
import Derived.Test.YtkcciinapkeaiaaDoorSsC
import Derived.Test.YtkcciinapkeaiaaDoorBy
import Derived.Test.YtkcciinapkeaiaaDoorEv
import Derived.Laws.MakeOwn
import Derived.BigQuiet
import Derived.Deep.QuietTactic
import Derived.Deep.RegionHeld3
import Derived.Test.YtkcciinapkeaiaaDoorGe
namespace Go.Proofs.YtkcciinapkeaiaaDoor.Z
open Go.Proofs.YtkcciinapkeaiaaDoor.Gw
open Go.RowKit Go.Proofs.YtkcciinapkeaiaaDoorW.PrintWords Go.Proofs.YtkcciinapkeaiaaDoorW.PrintLast Go.Proofs.YtkcciinapkeaiaaDoorW.PrintMore
attribute [local go_sem high] Go.Proofs.YtkcciinapkeaiaaDoor.Ge.gtr_str
attribute [local go_sem] max2_int min2_int max_two min_two max_three min_three max_four min_four   -- for this text's walks alone
set_option linter.unusedVariables false
set_option linter.unusedSimpArgs false

-- PLUGGED impl_DebianParse: function 21 (a text of this session)
/-! a version told -/
def t2W (W : World) (b : Nat) (n : Bool) (m : ByteArray) : World := (W.setCell ⟨b, 0, none⟩ (.bool n)).setCell ⟨b, 1, none⟩ (.string m)
theorem t2_blk {W : World} {b : Nat} {n n' : Bool} {m m' : ByteArray} {t : TypeId} (h : W.heap[b]? = some (.cells #[.bool n', .string m'] t (0, 0))) : (t2W W b n m).heap[b]? = some (.cells #[.bool n, .string m] t (0, 0)) :=
  blk_put (cs := #[.bool n, .string m']) (blk_put h 0 _ rfl) 1 _ rfl
theorem t2_below {w W : World} {b : Nat} {n : Bool} {m : ByteArray} (h : Below w.heap.size w W) (hb : w.heap.size ≤ b) : Below w.heap.size w (t2W W b n m) := by
  have hs : ∀ {X : World} {j : Nat} {y : Value}, Below w.heap.size w X → Below w.heap.size w (X.setCell ⟨b, j, none⟩ y) := fun {X j y} hx => hx.setCell (p := ⟨b, j, none⟩) hb y
  exact hs (hs h)
def t4W (W : World) (b : Nat) (n : Bool) (m u v : ByteArray) : World := (((W.setCell ⟨b, 0, none⟩ (.bool n)).setCell ⟨b, 1, none⟩ (.string m)).setCell ⟨b, 2, none⟩ (.string u)).setCell ⟨b, 3, none⟩ (.string v)
theorem t4_blk {W : World} {b : Nat} {n n' : Bool} {m m' u u' v v' : ByteArray} {t : TypeId} (h : W.heap[b]? = some (.cells #[.bool n', .string m', .string u', .string v'] t (0, 0))) : (t4W W b n m u v).heap[b]? = some (.cells #[.bool n, .string m, .string u, .string v] t (0, 0)) :=
  blk_put (cs := #[.bool n, .string m, .string u, .string v']) (blk_put (cs := #[.bool n, .string m, .string u', .string v']) (blk_put (cs := #[.bool n, .string m', .string u', .string v']) (blk_put h 0 _ rfl) 1 _ rfl) 2 _ rfl) 3 _ rfl
theorem t4_below {w W : World} {b : Nat} {n : Bool} {m u v : ByteArray} (h : Below w.heap.size w W) (hb : w.heap.size ≤ b) : Below w.heap.size w (t4W W b n m u v) := by
  have hs : ∀ {X : World} {j : Nat} {y : Value}, Below w.heap.size w X → Below w.heap.size w (X.setCell ⟨b, j, none⟩ y) := fun {X j y} hx => hx.setCell (p := ⟨b, j, none⟩) hb y
  exact hs (hs (hs (hs h)))
theorem dt_hcell {W W' : World} {a : Addr} {v : Value} (hb : Below W.heap.size W W') (h : W.cell? a = some v) : W'.cell? a = some v := (hb.cell (World.block_lt_of_cell? W _ h)).trans h
theorem dt_drew {W : World} {g : Nat} {o : Obj} (h : W.heap[g]? = some o) : W.drew.heap[g]? = some o := h
theorem dt_drewB {w W : World} (h : Below w.heap.size w W) : Below w.heap.size w W.drew := pw_below_drewN h 1
set_option maxRecDepth 100000 in
set_option maxHeartbeats 8000000 in
theorem db_told (z : Int) (a b : ByteArray) (o n : Nat) (w : World) (hn : n ≤ 1000000) (hz : z.natAbs ≤ Ss.tp n) (hat : Big.At w z (.pointer (some ⟨o, 0, none⟩))) :
    Calls Tryd.prog 35 #[.agg #[.pointer (some ⟨o, 0, none⟩), .string a, .string b]] w fun e w' => e = .returned (.tuple #[.agg #[.bool (decide (z < 0)), .string (Ss.plainS z)], .string a, .string b]) ∧ Below w.heap.size w w' := by
  obtain ⟨WA, hWA⟩ : ∃ WA, WA = (w.alloc (.cells #[.pointer (some ⟨o, 0, none⟩), .string a, .string b] 50)).alloc (.cells #[.bool false, .string ⟨#[]⟩] 60) := ⟨_, rfl⟩
  have e1 : (w.alloc (.cells #[.pointer (some ⟨o, 0, none⟩), .string a, .string b] 50)).heap.size = w.heap.size + 1 := by simp
  have H0 : Aside0 (WA.heap[w.heap.size]? = some (.cells #[.pointer (some ⟨o, 0, none⟩), .string a, .string b] 50 (0, 0))) := ⟨by
    rw [hWA]
    exact (((Below.refl _ (w.alloc (.cells #[.pointer (some ⟨o, 0, none⟩), .string a, .string b] 50))).alloc (Nat.le_refl _) _).block w.heap.size (by simp)).trans (blk_new w _)⟩
  have H1 : Aside0 (WA.heap[w.heap.size + 1]? = some (.cells #[.bool false, .string ⟨#[]⟩] 60 (0, 0))) := ⟨by
    rw [hWA, ← e1]
    exact blk_new _ _⟩
  have HQ : Aside0 (∀ W, Below w.heap.size w W → Calls Tryd.prog 52 #[.pointer (some ⟨o, 0, none⟩)] W fun e w' => e = .returned (.agg #[.bool (decide (z < 0)), .string (Ss.plainS z)]) ∧ Below W.heap.size W w') := ⟨fun W hb => Ss.ss_plain _ z W n hn hz (Big.At.below hat hb)⟩
  obtain ⟨ng, hng⟩ : ∃ ng, ng = decide (z < 0) := ⟨_, rfl⟩
  obtain ⟨mg, hmg⟩ : ∃ mg, mg = Ss.plainS z := ⟨_, rfl⟩
  rw [← hng, ← hmg] at HQ ⊢
  have hu := Tryd.underlying50
  have hu2 := Tryd.underlying60
  clear hn hz hat e1 hng hmg
  go_enter Tryd.func35, Tryd.ntmps35
  go_wp2
  rw [← hWA]
  have c0 : WA.cell? ⟨w.heap.size, 0, none⟩ = some (.pointer (some ⟨o, 0, none⟩)) := (blk_cell H0.out 0).trans rfl
  have c1 : WA.cell? ⟨w.heap.size, 1, none⟩ = some (.string a) := (blk_cell H0.out 1).trans rfl
  have c2 : WA.cell? ⟨w.heap.size, 2, none⟩ = some (.string b) := (blk_cell H0.out 2).trans rfl
  have c4 := H1.out
  have c6 : Below w.heap.size w WA := by rw [hWA]; exact ((Below.refl _ w).alloc (Nat.le_refl _) _).alloc (by simp) _
  clear hWA H0 H1
  go_region_held3 (fun w' => w'.cell? ⟨w.heap.size, 0, none⟩ = some (.pointer (some ⟨o, 0, none⟩)) ∧ w'.cell? ⟨w.heap.size, 1, none⟩ = some (.string a) ∧ w'.cell? ⟨w.heap.size, 2, none⟩ = some (.string b)) (first | exact ⟨by with_reducible assumption, by with_reducible assumption, by with_reducible assumption⟩ | exact ⟨c0, c1, c2⟩ | go_keep)
    (first | (go_at_call 52; (with_reducible refine (HQ.out _ ?_).mono ?_); (first | (with_reducible assumption) | exact c6 | exact dt_drewB c6); rintro e w' ⟨rfl, hb⟩; have k0 := dt_hcell hb (a := ⟨w.heap.size, 0, none⟩) (v := .pointer (some ⟨o, 0, none⟩)) (by first | (with_reducible assumption) | exact c0); have k1 := dt_hcell hb (a := ⟨w.heap.size, 1, none⟩) (v := .string a) (by first | (with_reducible assumption) | exact c1); have k2 := dt_hcell hb (a := ⟨w.heap.size, 2, none⟩) (v := .string b) (by first | (with_reducible assumption) | exact c2); have k4 := blk_keep' (g := w.heap.size + 1) (o := .cells #[.bool false, .string ⟨#[]⟩] 60 (0, 0)) hb (by first | (with_reducible assumption) | exact dt_drew c4); have q0 := (blk_cell k4 0).trans rfl; have q1 := (blk_cell k4 1).trans rfl; have f0 := blk_frozen k4 0; have f1 := blk_frozen k4 1; have k5 : Below w.heap.size w w' := (show Below w.heap.size w _ by first | (with_reducible assumption) | exact dt_drewB c6).trans (hb.mono (show Below w.heap.size w _ by first | (with_reducible assumption) | exact dt_drewB c6).size)))
  have e1 := t2_blk (n := ng) (m := mg) k4
  have p0 := (blk_cell e1 0).trans rfl
  have p1 := (blk_cell e1 1).trans rfl
  have HE := Aside0.mk (t2_below (b := w.heap.size + 1) (n := ng) (m := mg) k5 (Nat.le_succ _))
  unfold t2W at p0 p1 HE
  clear hb k0 k1 k2 k4 k5 e1 c0 c1 c2 c4 c6 HQ
  go_wp2
  exact bodyPost_ret (v := .tuple #[.agg #[.bool ng, .string mg], .string a, .string b]) (by simp [results, Tryd.results35, go_sem, p0, p1, Tryd.underlying60]) rfl ⟨rfl, HE.out⟩
def impl_DebianParse.f (a0 : ByteArray) : Option (Bool × ByteArray × ByteArray × ByteArray × Bool) := if a0.size ≤ 100000 ∧ ascB a0 = true then some (match dbp (By.bl a0) with
  | some x => (decide (x.1 < 0), Ss.plainS x.1, By.ofL x.2.1, By.ofL x.2.2, true)
  | none => (false, ⟨#[]⟩, ⟨#[]⟩, ⟨#[]⟩, false)) else none
theorem dbp_small {l : List UInt8} {x : DbV} (h : dbp l = some x) (hl : l.length ≤ 100000) : x.1.natAbs ≤ Ss.tp 100000 := by
  unfold dbp at h
  split at h
  · obtain ⟨z, hz, rfl⟩ := Option.map_eq_some_iff.1 h
    have hz2 := Ss.cvt_small hz
    rw [By.ofL_size] at hz2
    refine Nat.le_trans hz2 (Ss.tp_le ?_)
    refine Nat.le_trans (List.takeWhile_sublist _).length_le (Nat.le_trans ?_ hl)
    unfold Lib.trimSpace
    rw [List.length_reverse]
    refine Nat.le_trans (List.dropWhile_sublist _).length_le ?_
    rw [List.length_reverse]
    exact (List.dropWhile_sublist _).length_le
  · have := Option.some.inj h
    subst this
    exact Nat.zero_le _
attribute [local go_sem] Ss.EV
set_option maxRecDepth 100000 in
set_option maxHeartbeats 8000000 in
theorem impl_DebianParse.calls (a0 : ByteArray) (r1 : Bool) (r2 r3 r4 : ByteArray) (r5 : Bool) (w : World) (hG : GW w) (h : impl_DebianParse.f a0 = some (r1, r2, r3, r4, r5)) :
    Calls Tryd.prog 21 #[.string a0] w fun e w' => e = .returned (.tuple #[.agg #[.bool r1, .string r2, .string r3, .string r4], .bool r5]) ∧ Below w.heap.size w w' := by
  unfold impl_DebianParse.f at h
  split at h
  · rename_i hf
    have ha0 : Asc (By.bl a0) := ⟨by rw [By.bl_length]; exact hf.1, ascB_all hf.2⟩
    obtain ⟨WA, hWA⟩ : ∃ WA, w.alloc (.cells #[.bool false, .string ⟨#[]⟩, .string ⟨#[]⟩, .string ⟨#[]⟩] 39) = WA := ⟨_, rfl⟩
    have hBA : Below w.heap.size w WA := by rw [← hWA]; exact (Below.refl _ _).alloc (Nat.le_refl _) _
    have HRA : Aside0 (WA.heap[w.heap.size]? = some (.cells #[.bool false, .string ⟨#[]⟩, .string ⟨#[]⟩, .string ⟨#[]⟩] 39 (0, 0))) := ⟨by rw [← hWA]; exact blk_new w _⟩
    have hp0 := db_parse (By.bl a0) WA ha0 (Gw.GW.below hG hBA)
    rw [By.ofL_bl] at hp0
    have HP := Aside0.mk hp0
    have HA0 := Aside0.mk ha0
    have HBA := Aside0.mk hBA
    have HH := Aside0.mk h
    have hu := Tryd.underlying50
    have hu2 := Tryd.underlying39
    have hu3 := Tryd.underlying60
    have hu4 := Tryd.underlying26
    clear h hf hG hp0 ha0 hBA
    go_enter Tryd.func21, Tryd.ntmps21
    go_wp2_with (go_at_call 29; (with_reducible refine (HP.out).mono ?_))
    rintro e W1 ⟨hb1, h1⟩
    have HB1 : Aside0 (Below WA.heap.size WA W1) := ⟨hb1⟩
    clear HP hb1
    rcases h1 with ⟨hn, ae, rfl⟩ | ⟨z, u, v, o, hx, rfl, hat⟩
    · have HV : Aside0 (r1 = false ∧ r2 = ⟨#[]⟩ ∧ r3 = ⟨#[]⟩ ∧ r4 = ⟨#[]⟩ ∧ r5 = false) := ⟨by
        have h := HH.out
        rw [hn] at h
        simp only [Option.some.injEq, Prod.mk.injEq] at h
        exact ⟨h.1.symm, h.2.1.symm, h.2.2.1.symm, h.2.2.2.1.symm, h.2.2.2.2.symm⟩⟩
      go_upto_region 2 with fail
      obtain ⟨W2, hW2⟩ : ∃ W2, W1.alloc (.cells #[.pointer none, .string ⟨#[]⟩, .string ⟨#[]⟩] 50) = W2 := ⟨_, rfl⟩
      have hB2 : Below W1.heap.size W1 W2 := by rw [← hW2]; exact (Below.refl _ _).alloc (Nat.le_refl _) _
      rw [hW2]
      clear hW2
      have hblk := blk_keep' hB2 (blk_keep' HB1.out HRA.out)
      have f0 := blk_frozen hblk 0
      have f1 := blk_frozen hblk 1
      have f2 := blk_frozen hblk 2
      have f3 := blk_frozen hblk 3
      have d0 := (blk_cell hblk 0).trans rfl
      have d1 := (blk_cell hblk 1).trans rfl
      have d2 := (blk_cell hblk 2).trans rfl
      have d3 := (blk_cell hblk 3).trans rfl
      obtain ⟨w3, hw3⟩ : ∃ w3, t4W W2 w.heap.size false ⟨#[]⟩ ⟨#[]⟩ ⟨#[]⟩ = w3 := ⟨_, rfl⟩
      have hq : w3.heap[w.heap.size]? = some (.cells #[.bool false, .string ⟨#[]⟩, .string ⟨#[]⟩, .string ⟨#[]⟩] 39 (0, 0)) := by rw [← hw3]; exact t4_blk hblk
      have HBW : Aside0 (Below w.heap.size w w3) := ⟨by
        rw [← hw3]
        have h1 := HBA.out.trans (HB1.out.mono HBA.out.size)
        exact t4_below (h1.trans (hB2.mono h1.size)) (Nat.le_refl _)⟩
      have p0 := (blk_cell hq 0).trans rfl
      have p1 := (blk_cell hq 1).trans rfl
      have p2 := (blk_cell hq 2).trans rfl
      have p3 := (blk_cell hq 3).trans rfl
      unfold t4W at hw3
      clear hblk hq hn HH hB2
      go_wp2
      exact bodyPost_ret (v := .tuple #[.agg #[.bool false, .string ⟨#[]⟩, .string ⟨#[]⟩, .string ⟨#[]⟩], .bool false]) (by simp [results, Tryd.results21, go_sem, p0, p1, p2, p3, Tryd.underlying39, Tryd.underlying26]) rfl ⟨by rw [HV.out.1, HV.out.2.1, HV.out.2.2.1, HV.out.2.2.2.1, HV.out.2.2.2.2], HBW.out⟩
    · have HV : Aside0 (r1 = decide (z < 0) ∧ r2 = Ss.plainS z ∧ r3 = By.ofL u ∧ r4 = By.ofL v ∧ r5 = true) := ⟨by
        have h := HH.out
        rw [hx] at h
        simp only [Option.some.injEq, Prod.mk.injEq] at h
        exact ⟨h.1.symm, h.2.1.symm, h.2.2.1.symm, h.2.2.2.1.symm, h.2.2.2.2.symm⟩⟩
      have hsm := dbp_small hx HA0.out.1
      obtain ⟨a, haa⟩ : ∃ s, s = By.ofL u := ⟨_, rfl⟩
      obtain ⟨b, hbb⟩ : ∃ s, s = By.ofL v := ⟨_, rfl⟩
      rw [← haa, ← hbb] at HV
      rw [← haa, ← hbb]
      obtain ⟨W2, hW2⟩ : ∃ W2, W1.alloc (.cells #[.pointer (some ⟨o, 0, none⟩), .string a, .string b] 50) = W2 := ⟨_, rfl⟩
      have hB2 : Below W1.heap.size W1 W2 := by rw [← hW2]; exact (Below.refl _ _).alloc (Nat.le_refl _) _
      have hblk : W2.heap[W1.heap.size]? = some (.cells #[.pointer (some ⟨o, 0, none⟩), .string a, .string b] 50 (0, 0)) := by rw [← hW2]; exact blk_new W1 _
      have HR2 := Aside0.mk (blk_keep' hB2 (blk_keep' HB1.out HRA.out))
      have k0 : W2.cell? ⟨W1.heap.size, 0, none⟩ = some (.pointer (some ⟨o, 0, none⟩)) := (blk_cell hblk 0).trans rfl
      have k1 : W2.cell? ⟨W1.heap.size, 1, none⟩ = some (.string a) := (blk_cell hblk 1).trans rfl
      have k2 : W2.cell? ⟨W1.heap.size, 2, none⟩ = some (.string b) := (blk_cell hblk 2).trans rfl
      have HB2 : Aside0 (Below w.heap.size w W2) := ⟨by
        have h1 := HBA.out.trans (HB1.out.mono HBA.out.size)
        exact h1.trans (hB2.mono h1.size)⟩
      have hT0 := db_told z a b o 100000 W2 (by omega) hsm (Big.At.below hat hB2)
      obtain ⟨ng, hng⟩ : ∃ ng, ng = decide (z < 0) := ⟨_, rfl⟩
      obtain ⟨mg, hmg⟩ : ∃ mg, mg = Ss.plainS z := ⟨_, rfl⟩
      rw [← hng, ← hmg] at hT0 HV
      have HT := Aside0.mk hT0
      clear hx hat hB2 hblk haa hbb hsm hT0 hng hmg HH
      go_wp2_with (go_at_call 35; (with_reducible refine (HT.out).mono ?_))
      rintro e W3 ⟨rfl, hb3⟩
      have hblk3 := blk_keep' hb3 HR2.out
      have HB3 : Aside0 (Below w.heap.size w W3) := ⟨HB2.out.trans (hb3.mono HB2.out.size)⟩
      obtain ⟨W4, hW4⟩ : ∃ W4, W3.alloc (.cells #[.bool ng, .string mg] 60) = W4 := ⟨_, rfl⟩
      have hB4 : Below W3.heap.size W3 W4 := by rw [← hW4]; exact (Below.refl _ _).alloc (Nat.le_refl _) _
      have hz4 : W4.heap[W3.heap.size]? = some (.cells #[.bool ng, .string mg] 60 (0, 0)) := by rw [← hW4]; exact blk_new W3 _
      have m0 : W4.cell? ⟨W3.heap.size, 0, none⟩ = some (.bool ng) := (blk_cell hz4 0).trans rfl
      have m1 : W4.cell? ⟨W3.heap.size, 1, none⟩ = some (.string mg) := (blk_cell hz4 1).trans rfl
      have hblk4 := blk_keep' hB4 hblk3
      have f0 := blk_frozen hblk4 0
      have f1 := blk_frozen hblk4 1
      have f2 := blk_frozen hblk4 2
      have f3 := blk_frozen hblk4 3
      have d0 := (blk_cell hblk4 0).trans rfl
      have d1 := (blk_cell hblk4 1).trans rfl
      have d2 := (blk_cell hblk4 2).trans rfl
      have d3 := (blk_cell hblk4 3).trans rfl
      obtain ⟨w5, hw5⟩ : ∃ w5, t4W W4 w.heap.size ng mg a b = w5 := ⟨_, rfl⟩
      have hq : w5.heap[w.heap.size]? = some (.cells #[.bool ng, .string mg, .string a, .string b] 39 (0, 0)) := by rw [← hw5]; exact t4_blk hblk4
      have HBW : Aside0 (Below w.heap.size w w5) := ⟨by
        rw [← hw5]
        exact t4_below (HB3.out.trans (hB4.mono HB3.out.size)) (Nat.le_refl _)⟩
      have p0 := (blk_cell hq 0).trans rfl
      have p1 := (blk_cell hq 1).trans rfl
      have p2 := (blk_cell hq 2).trans rfl
      have p3 := (blk_cell hq 3).trans rfl
      unfold t4W at hw5
      clear hb3 hblk3 hblk4 hz4 hq hB4 k0 k1 k2
      go_wp2
      exact bodyPost_ret (v := .tuple #[.agg #[.bool ng, .string mg, .string a, .string b], .bool true]) (by simp [results, Tryd.results21, go_sem, p0, p1, p2, p3, Tryd.underlying39, Tryd.underlying26]) rfl ⟨by rw [HV.out.1, HV.out.2.1, HV.out.2.2.1, HV.out.2.2.2.1, HV.out.2.2.2.2], HBW.out⟩
  · cases h

end Go.Proofs.YtkcciinapkeaiaaDoor.Z
