-- Written by a program of this session (myprint.py).
import Derived.Test.YtajglnedoeboaaaGreatDoorZ0
import Derived.Test.YtajglnedoeboaaaGreatDoorZ7
import Derived.Deep.RegionHeld3
import Derived.Test.YtajglnedoeboaaaGreatDoorBg
import Derived.Test.YtajglnedoeboaaaGreatDoorGe
namespace Go.Proofs.YtajglnedoeboaaaGreatDoor.Z
open Go.Proofs.YtajglnedoeboaaaGreatDoor.Gw
open Go.RowKit Go.Proofs.YtajglnedoeboaaaGreatDoorW.PrintWords Go.Proofs.YtajglnedoeboaaaGreatDoorW.PrintLast Go.Proofs.YtajglnedoeboaaaGreatDoorW.PrintMore
attribute [local go_sem high] Go.Proofs.YtajglnedoeboaaaGreatDoor.Ge.gtr_str
attribute [local go_sem] max2_int min2_int max_two min_two max_three min_three max_four min_four   -- for this text's walks alone
set_option linter.unusedVariables false
set_option linter.unusedSimpArgs false

-- PLUGGED semantic_ZZLike_like: function 45 (a text of this session)
/-- The world behind a struct's four stores. -/
def sv_l4W (W : World) (g : Nat) (x0 x1 x2 x3 : Value) : World := (((W.setCell ⟨g, 0, none⟩ x0).setCell ⟨g, 1, none⟩ x1).setCell ⟨g, 2, none⟩ x2).setCell ⟨g, 3, none⟩ x3
theorem sv_l4_end {α : Type} (d : Kd α) (b0 : Nat) {w W : World} {g base e t : Nat} {v0 v1 v2 v3 : Value} {v : Value} {xs : List α} (x0 x1 x2 x3 : Value) (hC : W.heap[g]? = some (.cells #[v0, v1, v2, v3] t (0, 0)))
    (HO : Kd.R d e W base (fun _ => True) v xs) (hb : g < base) (hb0 : b0 ≤ g) (HB : Below b0 w W) :
    (sv_l4W W g x0 x1 x2 x3).heap[g]? = some (.cells #[x0, x1, x2, x3] t (0, 0)) ∧ Below b0 w (sv_l4W W g x0 x1 x2 x3) ∧ Kd.R d e (sv_l4W W g x0 x1 x2 x3) g (fun _ => True) v xs := by
  have h1 := Kd.R_far (p := ⟨g, 0, none⟩) (Kd.R_bound HO) (fun k hk e => by have h1 := hk.2.1; have e2 : k = g := e; omega) x0
  have h2 := Kd.R_far (p := ⟨g, 1, none⟩) h1 (fun k hk e => by have h1 := hk.2.1; have e2 : k = g := e; omega) x1
  have h3 := Kd.R_far (p := ⟨g, 2, none⟩) h2 (fun k hk e => by have h1 := hk.2.1; have e2 : k = g := e; omega) x2
  have h4 := Kd.R_far (p := ⟨g, 3, none⟩) h3 (fun k hk e => by have h1 := hk.2.1; have e2 : k = g := e; omega) x3
  refine ⟨?_, ?_, Kd.R_lower (Kd.R_mono h4 (fun _ _ => trivial)) (Nat.le_of_lt hb)⟩
  · have b1 := blk_put hC 0 x0 rfl
    have b2 := blk_put b1 1 x1 rfl
    have b3 := blk_put b2 2 x2 rfl
    exact blk_put b3 3 x3 rfl
  · exact ((((HB.setCell (p := ⟨g, 0, none⟩) hb0 _).setCell (p := ⟨g, 1, none⟩) hb0 _).setCell (p := ⟨g, 2, none⟩) hb0 _).setCell (p := ⟨g, 3, none⟩) hb0 _)
theorem sv_hcell {W W' : World} {a : Addr} {v : Value} (hb : Below W.heap.size W W') (h : W.cell? a = some v) : W'.cell? a = some v := (hb.cell (World.block_lt_of_cell? W _ h)).trans h
set_option maxRecDepth 100000 in
set_option maxHeartbeats 4000000 in
theorem like_like (vv : Bool) (A : Option Addr) (c : Nat) (zs : List S85) (b s : ByteArray) (w : World) (hr : Kd.C k85 w A zs.length zs) (hc : zs.length ≤ c) (hs : ∀ x ∈ zs, x.f1.size ≤ 1000000) (hl : zs.length ≤ 1000000) :
    Calls Tryz.prog 45 #[.agg #[.bool vv, .slice A zs.length c, .string b, .string s]] w fun e w' => ∃ v, e = .returned (.agg #[.bool vv, v, .string b, .string s]) ∧ Kd.R Big.kd 94 w' w.heap.size (fun _ => True) v (zs.map zvS) ∧ Below w.heap.size w w' := by
  obtain ⟨WA, hWA⟩ : ∃ WA, WA = (w.alloc (.cells #[.bool vv, .slice A zs.length c, .string b, .string s] 53)).alloc (.cells #[.bool false, .slice none 0 0, .string ⟨#[]⟩, .string ⟨#[]⟩] 47) := ⟨_, rfl⟩
  have e1 : (w.alloc (.cells #[.bool vv, .slice A zs.length c, .string b, .string s] 53)).heap.size = w.heap.size + 1 := by simp
  have H0 : Aside0 (WA.heap[w.heap.size]? = some (.cells #[.bool vv, .slice A zs.length c, .string b, .string s] 53 (0, 0))) := ⟨by
    rw [hWA]
    exact (((Below.refl _ (w.alloc (.cells #[.bool vv, .slice A zs.length c, .string b, .string s] 53))).alloc (Nat.le_refl _) _).block w.heap.size (by simp)).trans (blk_new w _)⟩
  have H1 : Aside0 (WA.heap[w.heap.size + 1]? = some (.cells #[.bool false, .slice none 0 0, .string ⟨#[]⟩, .string ⟨#[]⟩] 47 (0, 0))) := ⟨by
    rw [hWA, ← e1]
    exact blk_new _ _⟩
  have HQ : Aside0 (∀ W, Below w.heap.size w W → Calls Tryz.prog 50 #[.slice A zs.length c] W fun e w' => ∃ v, e = .returned v ∧ Kd.R Big.kd 94 w' W.heap.size (fun _ => True) v (zs.map zvS) ∧ Below W.heap.size W w') := ⟨fun W hb => big_zzBigs A c zs W (Kd.C_below hr hb) hc hs hl⟩
  obtain ⟨m, hm⟩ : ∃ m, m = zs.length := ⟨_, rfl⟩
  rw [← hm] at hWA H0 HQ ⊢
  obtain ⟨ps, hps⟩ : ∃ ps, ps = zs.map zvS := ⟨_, rfl⟩
  rw [← hps] at HQ ⊢
  clear hr hc hs hl hm e1 hps
  go_enter Tryz.func45, Tryz.ntmps45
  go_wp2
  rw [← hWA]
  have c0 := (blk_cell H0.out 0).trans rfl
  have c1 := (blk_cell H0.out 1).trans rfl
  have c2 := (blk_cell H0.out 2).trans rfl
  have c3 := (blk_cell H0.out 3).trans rfl
  have c4 := H1.out
  have c5 : w.heap.size + 1 < WA.heap.size := (Array.getElem?_eq_some_iff.1 H1.out).1
  have c6 : Below w.heap.size w WA := by rw [hWA]; exact ((Below.refl _ w).alloc (Nat.le_refl _) _).alloc (by simp) _
  clear hWA H0 H1
  go_region_held3 (fun w' => w'.cell? ⟨w.heap.size, 0, none⟩ = some (.bool vv) ∧ w'.cell? ⟨w.heap.size, 1, none⟩ = some (.slice A m c) ∧ w'.cell? ⟨w.heap.size, 2, none⟩ = some (.string b) ∧ w'.cell? ⟨w.heap.size, 3, none⟩ = some (.string s)) (first | exact ⟨by with_reducible assumption, by with_reducible assumption, by with_reducible assumption, by with_reducible assumption⟩ | exact ⟨c0, c1, c2, c3⟩ | go_keep)
    (first | (go_at_call 50; refine (HQ.out _ ?_).mono ?_; (first | (with_reducible assumption) | exact c6 | exact below_drew c6); rintro e w' ⟨v, rfl, hown, hb⟩; obtain ⟨A1, n1, rfl, hcl, hrd⟩ := Kd.R_reads hown; have k0 := sv_hcell hb (a := ⟨w.heap.size, 0, none⟩) (v := .bool vv) (by first | (with_reducible assumption) | exact c0); have k1 := sv_hcell hb (a := ⟨w.heap.size, 1, none⟩) (v := .slice A m c) (by first | (with_reducible assumption) | exact c1); have k2 := sv_hcell hb (a := ⟨w.heap.size, 2, none⟩) (v := .string b) (by first | (with_reducible assumption) | exact c2); have k3 := sv_hcell hb (a := ⟨w.heap.size, 3, none⟩) (v := .string s) (by first | (with_reducible assumption) | exact c3); have k4 := blk_below (g := w.heap.size + 1) (o := .cells #[.bool false, .slice none 0 0, .string ⟨#[]⟩, .string ⟨#[]⟩] 47 (0, 0)) (by first | (with_reducible assumption) | exact blk_drew c4) hb; have q0 := (blk_cell k4 0).trans rfl; have q1 := (blk_cell k4 1).trans rfl; have q2 := (blk_cell k4 2).trans rfl; have q3 := (blk_cell k4 3).trans rfl; have f0 := blk_frozen k4 0; have f1 := blk_frozen k4 1; have f2 := blk_frozen k4 2; have f3 := blk_frozen k4 3; have k5 : Below w.heap.size w w' := (show Below w.heap.size w _ by first | (with_reducible assumption) | exact below_drew c6).trans (hb.mono (show Below w.heap.size w _ by first | (with_reducible assumption) | exact below_drew c6).size)))
  obtain ⟨e1, e2, e3⟩ := sv_l4_end _ w.heap.size (.bool vv) (.slice A1 ps.length n1) (.string b) (.string s) k4 hown c5 (Nat.le_succ _) k5
  have p0 := (blk_cell e1 0).trans rfl
  have p1 := (blk_cell e1 1).trans rfl
  have p2 := (blk_cell e1 2).trans rfl
  have p3 := (blk_cell e1 3).trans rfl
  have HE := Aside0.mk (And.intro e2 (Kd.R_lower e3 (Nat.le_succ w.heap.size)))
  unfold sv_l4W at p0 p1 p2 p3 HE
  clear hown hcl hrd hb k0 k1 k2 k3 k4 k5 e1 e2 e3 c0 c1 c2 c3 c4 c5 c6 HQ
  go_wp2
  exact bodyPost_ret (v := .agg #[.bool vv, .slice A1 ps.length n1, .string b, .string s]) (by simp [results, Tryz.results45, go_sem, p0, p1, p2, p3]) rfl ⟨_, rfl, HE.out.2, HE.out.1⟩
def fitZ (l : List S85) : Bool := decide (l.length ≤ 1000000) && l.all fun x => decide (x.f1.size ≤ 1000000)
theorem fitZ_of {l : List S85} (h : fitZ l = true) : l.length ≤ 1000000 ∧ ∀ x ∈ l, x.f1.size ≤ 1000000 := by
  unfold fitZ at h
  rw [Bool.and_eq_true, decide_eq_true_eq, List.all_eq_true] at h
  exact ⟨h.1, fun x hx => of_decide_eq_true (h.2 x hx)⟩
structure LkI (vv : Bool) (b s : ByteArray) (xs : List S85) (w : World) (e : Ending) (w' : World) : Prop where
  h : ∃ v, e = .returned (.agg #[.bool vv, v, .string b, .string s]) ∧ Kd.R k85 85 w' w.heap.size (fun _ => True) v xs ∧ Below w.heap.size w w'
structure ZzI (vv : Bool) (b s : ByteArray) (xs : List Int) (w : World) (e : Ending) (w' : World) : Prop where
  h : ∃ v, e = .returned (.agg #[.bool vv, v, .string b, .string s]) ∧ Kd.R Big.kd 94 w' w.heap.size (fun _ => True) v xs ∧ Below w.heap.size w w'

end Go.Proofs.YtajglnedoeboaaaGreatDoor.Z
