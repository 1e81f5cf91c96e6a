-- Written by a program of this session (myprint.py).
import Derived.Test.YtmhlmkefnmdbcaaDoorZ0
import Derived.Test.YtmhlmkefnmdbcaaDoorZ3
import Derived.Test.YtmhlmkefnmdbcaaDoorZ4
import Derived.Test.YtmhlmkefnmdbcaaDoorSsC
import Derived.Test.YtmhlmkefnmdbcaaDoorGe
namespace Go.Proofs.YtmhlmkefnmdbcaaDoor.Z
open Go.Proofs.YtmhlmkefnmdbcaaDoor.Gw
open Go.RowKit Go.Proofs.YtmhlmkefnmdbcaaDoorW.PrintWords Go.Proofs.YtmhlmkefnmdbcaaDoorW.PrintLast Go.Proofs.YtmhlmkefnmdbcaaDoorW.PrintMore
attribute [local go_sem high] Go.Proofs.YtmhlmkefnmdbcaaDoor.Ge.gtr_str
attribute [local go_sem] max2_int min2_int max_two min_two max_three min_three max_four min_four   -- for this text's walks alone
set_option linter.unusedVariables false
set_option linter.unusedSimpArgs false

-- PLUGGED semantic_ParseCRANVersion: function 33 (a text of this session)
def cvs : List ByteArray → Option (List Int)
  | [] => some []
  | x :: l => match Ss.cvt x with
    | none => none
    | some z => (cvs l).map (z :: ·)
def crPs (s : ByteArray) : List ByteArray := (By.cutP (· == 46) ((By.bl s).map (zrF 45 46))).map By.ofL
/-- The numbers of a CRAN version. -/
def crP (s : ByteArray) : Option (List Int) := if s.size = 0 then some [] else cvs (crPs s)
theorem cutP_len (p : UInt8 → Bool) : ∀ l : List UInt8, (By.cutP p l).length ≤ l.length + 1 ∧ ∀ x ∈ By.cutP p l, x.length ≤ l.length
  | [] => ⟨by simp [By.cutP], fun x hx => by simp [By.cutP] at hx; subst hx; simp⟩
  | c :: l => by
    obtain ⟨h1, h2⟩ := cutP_len p l
    rw [By.cutP]
    split
    · refine ⟨by simp; omega, fun x hx => ?_⟩
      rcases List.mem_cons.1 hx with rfl | hx
      · simp
      · have := h2 x hx
        simp
        omega
    · cases e : By.cutP p l with
      | nil => exact ⟨by simp, fun x hx => by simp at hx; subst hx; simp⟩
      | cons y r =>
        rw [e] at h1 h2
        refine ⟨by simp at h1 ⊢; omega, fun x hx => ?_⟩
        rcases List.mem_cons.1 hx with rfl | hx
        · have := h2 y (by simp)
          simp
          omega
        · have := h2 x (by simp [hx])
          simp
          omega

theorem crPs_len (s : ByteArray) : (crPs s).length ≤ s.size + 1 ∧ ∀ x ∈ crPs s, x.size ≤ s.size := by
  obtain ⟨h1, h2⟩ := cutP_len (· == 46) ((By.bl s).map (zrF 45 46))
  rw [List.length_map, By.bl_length] at h1 h2
  refine ⟨by unfold crPs; rw [List.length_map]; exact h1, fun x hx => ?_⟩
  obtain ⟨y, hy, rfl⟩ := List.mem_map.1 hx
  rw [By.ofL_size]
  exact h2 y hy
theorem cvs_step {ps : List ByteArray} {i : Nat} {zs : List Int} (h : i < ps.length) (he : cvs ps = (cvs (ps.drop i)).map (zs ++ ·)) : (Ss.cvt ps[i] = none → cvs ps = none) ∧ ∀ z, Ss.cvt ps[i] = some z → cvs ps = (cvs (ps.drop (i + 1))).map ((zs ++ [z]) ++ ·) := by
  rw [List.drop_eq_getElem_cons h, cvs] at he
  refine ⟨fun hn => ?_, fun z hz => ?_⟩
  · rw [hn] at he
    exact he
  · rw [hz] at he
    rw [he]
    simp only [Option.map_map]
    congr 1
    funext l
    simp
def CrP (s : ByteArray) (w : World) (e : Ending) (w' : World) : Prop := Below w.heap.size w w' ∧
  ((crP s = none ∧ ∃ a, e = .returned (.tuple #[.agg #[.slice none 0 0], Ss.EV a])) ∨
   (∃ zs A c, crP s = some zs ∧ e = .returned (.tuple #[.agg #[.slice A zs.length c], .nilIface]) ∧ Kd.C Big.kd w' A zs.length zs ∧ zs.length ≤ c))
theorem cr_infoP : (Tryd.prog.info? 74).map (fun i => (i.zero, i.size, i.bytes)) = some (some (.pointer none), 1, 8) := by kernel_rfl
def RC1 (g : Nat) (v : Value) (w : World) : Prop := w.heap[g]? = some (.cells #[v] 47 (0, 0))
theorem RC1.c0 {g : Nat} {v : Value} {w : World} (h : RC1 g v w) : w.cell? ⟨g, 0, none⟩ = some v := (blk_cell h 0).trans rfl
theorem RC1.fr {g : Nat} {v : Value} {w : World} (h : RC1 g v w) : w.frozen? ⟨g, 0, none⟩ = false := blk_frozen h 0
theorem RC1.s0 {g : Nat} {v : Value} {w : World} (h : RC1 g v w) (x : Value) : RC1 g x (w.setCell ⟨g, 0, none⟩ x) := blk_put h 0 x rfl
theorem RC1.move {g : Nat} {v : Value} {w w' : World} (h : RC1 g v w) {B : Nat} (hb : Below B w w') (hg : g < B) : RC1 g v w' := (hb.block g hg).trans h
theorem cr_made (n : Nat) (hn : n ≤ 9223372036854775807) (w : World) (base : Nat) (hb : base ≤ w.heap.size) : Kd.R Big.kd 74 (w.alloc (.cells (madeCells #[Value.pointer none] n) 74)) base (fun _ => True) (.slice (some ⟨w.heap.size, 0, none⟩) 0 n) ([] : List Int) := by
  refine ⟨fun _ _ => trivial, [], ⟨by simp, .inr ⟨w.heap.size, n, madeCells #[Value.pointer none] n, rfl, hb, blk_new w _, Nat.zero_le _, by unfold maxLen; exact hn, ?_, by simp⟩⟩, by simp, fun j p hp => by simp at hp⟩
  simp [size_madeCells, Big.kd]
theorem cr_at {w : World} {A : Option Addr} {n : Nat} {xs : List ByteArray} (h : Kd.C Kd.string w A n xs) (i : Nat) (h1 : i < xs.length) (hn : n = xs.length) : ∃ ad, A = some ad ∧ w.cell? (ad.add i) = some (.string xs[i]) := by
  obtain ⟨ad, c, e, _, hK, hc0⟩ := Kd.C_get h xs[i] (i : Int) (by omega) (by omega)
  have hc : ∀ j u, c[j]? = some u → w.cell? (ad.add (i * 1 + j)) = some u := hc0
  have hg : xs.getD (i : Int).toNat xs[i] = xs[i] := by rw [Int.toNat_natCast, List.getD_eq_getElem?_getD, List.getElem?_eq_getElem h1]; rfl
  rw [hg] at hK
  have hcs : c = [.string xs[i]] := hK
  subst hcs
  have := hc 0 _ rfl
  rw [Nat.mul_one, Nat.add_zero] at this
  exact ⟨ad, e, this⟩
def crN : Value → Nat
  | .int _ n => n.toNat
  | _ => 0
set_option maxRecDepth 100000 in
set_option maxHeartbeats 4000000 in
theorem cran_parse (s : ByteArray) (w : World) (hs : s.size ≤ 100000) (hG : GW w) : Calls Tryd.prog 33 #[.string s] w (CrP s w) := by
  obtain ⟨a, a2, a3, hE, hN, hI⟩ := hG
  obtain ⟨WA, hWA⟩ : ∃ WA, w.alloc (.cells #[.slice none 0 0] 47) = WA := ⟨_, rfl⟩
  have hBA : Below w.heap.size w WA := by rw [← hWA]; exact (Below.refl _ _).alloc (Nat.le_refl _) _
  have hRA : RC1 w.heap.size (.slice none 0 0) WA := by rw [← hWA]; exact blk_new w _
  have hsz : WA.heap.size = w.heap.size + 1 := by rw [← hWA]; simp
  have HG : Aside0 (ErrAt gEOF a WA ∧ ErrAt gND a2 WA ∧ ErrAt gIV a3 WA) := ⟨hE.below hBA, hN.below hBA, hI.below hBA⟩
  have HB := Aside0.mk hBA
  have HR := Aside0.mk hRA
  have HZ := Aside0.mk hsz
  have c0 := hRA.c0
  have f0 := hRA.fr
  by_cases h0 : s.size = 0
  · have HC : Aside0 (crP s = some []) := ⟨if_pos h0⟩
    have hl : s.toList = [] := by rw [By.toList_bl]; exact List.eq_nil_of_length_eq_zero (by rw [By.bl_length]; exact h0)
    have hl2 : s.toList.isEmpty = true := by rw [hl]; rfl
    have hq := hRA.s0 (.slice none 0 0)
    have HBW : Aside0 (Below w.heap.size w (WA.setCell ⟨w.heap.size, 0, none⟩ (.slice none 0 0))) := ⟨hBA.setCell (p := ⟨w.heap.size, 0, none⟩) (Nat.le_refl _) _⟩
    obtain ⟨w3, hw3⟩ : ∃ w3, WA.setCell ⟨w.heap.size, 0, none⟩ (.slice none 0 0) = w3 := ⟨_, rfl⟩
    rw [hw3] at hq HBW
    have p0 := hq.c0
    clear hE hN hI hBA hRA hsz hs h0 hq
    go_enter Tryd.func33, Tryd.ntmps33
    go_wp2
    exact bodyPost_ret (v := .tuple #[.agg #[.slice none 0 0], .nilIface]) (by simp [results, Tryd.results33, go_sem, p0]) rfl ⟨HBW.out, .inr ⟨[], none, 0, HC.out, rfl, ⟨rfl, by simp, fun h => absurd h (by simp)⟩, Nat.le_refl _⟩⟩
  · have hl : (s.toList == []) = false := by
      rw [By.toList_bl, beq_eq_false_iff_ne]
      intro h
      have := congrArg List.length h
      rw [By.bl_length] at this
      exact h0 this
    have hl2 : s.toList.isEmpty = false := by
      rw [By.toList_bl, List.isEmpty_eq_false_iff]
      intro h
      have := congrArg List.length h
      rw [By.bl_length] at this
      exact h0 this
    have HCR : Aside0 (crP s = cvs (crPs s)) := ⟨if_neg h0⟩
    obtain ⟨hp1, hp2⟩ := crPs_len s
    have HPL : Aside0 ((crPs s).length ≤ 100001 ∧ ∀ x ∈ crPs s, x.size ≤ 1000000) := ⟨by omega, fun x hx => by have := hp2 x hx; omega⟩
    obtain ⟨s1, hs1⟩ : ∃ s1, s1 = By.ofL ((By.bl s).map (zrF 45 46)) := ⟨_, rfl⟩
    have hsz1 : s1.size = s.size := by rw [hs1, By.ofL_size, List.length_map, By.bl_length]
    have hf1 : semantic_zzReplaceAll.f s ⟨#[45]⟩ ⟨#[46]⟩ = some s1 := by
      unfold semantic_zzReplaceAll.f
      rw [if_pos ⟨by omega, rfl, rfl⟩, hs1]
      rfl
    have hf2 : semantic_zzSplit.f s1 ⟨#[46]⟩ = some (crPs s) := by
      unfold semantic_zzSplit.f
      rw [if_pos ⟨by omega, rfl⟩, hs1, By.bl_ofL]
      rfl
    have HF1 : Aside0 (∀ W, Calls Tryd.prog 60 #[.string s, .string ⟨#[45]⟩, .string ⟨#[46]⟩] W fun e w' => e = .returned (.string s1) ∧ Below W.heap.size W w') := ⟨fun W => semantic_zzReplaceAll.calls _ _ _ _ W hf1⟩
    have HF2 : Aside0 (∀ W, Calls Tryd.prog 59 #[.string s1, .string ⟨#[46]⟩] W fun e w' => ∃ v0_ : Value, e = .returned (v0_) ∧ Kd.R Kd.string 9 w' W.heap.size (fun _ => True) v0_ (crPs s) ∧ Below W.heap.size W w') := ⟨fun W => semantic_zzSplit.calls _ _ _ W hf2⟩
    have HIVL : Aside0 (gIV < w.heap.size) := ⟨hI.lt⟩
    clear hE hN hI hBA hRA hsz hs h0 hp1 hp2 hs1 hsz1 hf1 hf2
    generalize crPs s = ps at HCR HPL HF2
    go_enter Tryd.func33, Tryd.ntmps33
    go_wp2_with (go_at_call 60; (with_reducible refine (HF1.out _).mono ?_))
    rintro e W1 ⟨rfl, hb1⟩
    have HB1 := Aside0.mk hb1
    clear hb1
    go_wp2_with (go_at_call 59; (with_reducible refine (HF2.out _).mono ?_))
    rintro e W2 ⟨v0, rfl, hv0, hb2⟩
    obtain ⟨AP, cp, rfl, hcp, hrp⟩ := Kd.R_reads hv0
    have HB2 : Aside0 (Below WA.heap.size WA W2) := ⟨HB1.out.trans (hb2.mono HB1.out.size)⟩
    have HP := Aside0.mk hrp
    obtain ⟨i0, hi, hz0, hz1, hz2⟩ := info_parts cr_infoP
    obtain ⟨n, hn⟩ : ∃ n, n = ps.length := ⟨_, rfl⟩
    have hnl : n ≤ 100001 := by rw [hn]; exact HPL.out.1
    have hmk := run_make (P := Tryd.prog) W2 45 74 i0 (.pointer none) Tryd.underlying45 hi hz0 .i64 .i64 0 (n : Int) (by omega) (by omega) (by rw [hz2]; omega) (by omega)
    rw [hz1] at hmk
    have HM0 := Aside0.mk (cr_made n (by omega) W2 W2.heap.size (Nat.le_refl _))
    have HBM : Aside0 (Below W2.heap.size W2 (W2.alloc (.cells (madeCells #[Value.pointer none] n) 74))) := ⟨(Below.refl _ _).alloc (Nat.le_refl _) _⟩
    rw [← hn] at hcp ⊢
    have HN2 := Aside0.mk hn
    have e0 : (0 : Int).toNat = 0 := rfl
    rw [e0, Int.toNat_natCast, Nat.mul_one] at hmk
    clear hv0 hb2 hrp hi hz0 hz1 hz2 hn e0
    go_wp2
    go_loopw [5, 21] (fun v5 v21 wr => ∃ (i : Nat) (zs : List Int), v21 = .int .i64 (i : Int) ∧ i ≤ n ∧ Aside0 (Kd.R Big.kd 74 wr W2.heap.size (fun _ => True) v5 zs) ∧ Aside0 (Below W2.heap.size W2 wr) ∧ Aside0 (cvs ps = (cvs (ps.drop i)).map (zs ++ ·) ∧ zs.length = i)) (fun v5 v21 wr => n - crN v21)
    case atStart => exact ⟨0, [], rfl, Nat.zero_le _, HM0, HBM, ⟨by rw [List.drop_zero]; cases cvs ps <;> rfl, rfl⟩⟩
    case round =>
      clear HM0 HBM
      obtain ⟨i, zs, rfl, him, HO, HBr, HX⟩ := hrel
      have HBA2 : Aside0 (Below WA.heap.size WA wr) := ⟨HB2.out.trans (HBr.out.mono HB2.out.size)⟩
      have hRr := HR.out.move HBA2.out (by have := HZ.out; omega)
      by_cases hi : i < n
      · have hd : decide ((i : Int) < (n : Int)) = true := decide_eq_true (by omega)
        have hd2 : decide (i < n) = true := decide_eq_true hi
        have hip : i < ps.length := by have := HN2.out; omega
        obtain ⟨ad, rfl, hx⟩ := cr_at (Kd.C_below HP.out HBr.out) i hip rfl
        obtain ⟨hst1, hst2⟩ := cvs_step hip HX.out.1
        have hxs := HPL.out.2 _ (List.getElem_mem hip)
        generalize ps[i] = x at hx hst1 hst2 hxs
        have HST := Aside0.mk (And.intro hst1 hst2)
        have HXL : Aside0 (i < n ∧ zs.length = i) := ⟨hi, HX.out.2⟩
        have hi0 : (0 : Int) ≤ (i : Int) := by omega
        have hi1 : (i : Int) < (n : Int) := by omega
        have hE1 : ErrAt gEOF a wr := HG.out.1.below HBA2.out
        have hN1 : ErrAt gND a2 wr := HG.out.2.1.below HBA2.out
        have hBO : Below wr.heap.size wr (wr.alloc (.cells #[.bool false, .slice none 0 0] Big.TI)) := (Below.refl _ _).alloc (Nat.le_refl _) _
        have hC := Aside0.mk (Ss.ss_SetString x wr.heap.size a a2 (wr.alloc (.cells #[.bool false, .slice none 0 0] Big.TI)) hxs (by simp) (blk_new wr _) (hE1.below hBO) (hN1.below hBO) hE1.lt hN1.lt)
        have HBO := Aside0.mk hBO
        have HRr := Aside0.mk hRr
        clear hst1 hst2 hxs hE1 hN1 hBO hip hi hRr
        go_wp2_with (go_at_call 61; (with_reducible refine (hC.out).mono ?_))
        rintro e W3 ⟨hB3, h3⟩
        have HB3 : Aside0 (Below wr.heap.size wr W3) := ⟨HBO.out.trans hB3⟩
        have HB3r : Aside0 (Below W2.heap.size W2 W3) := ⟨HBr.out.trans (HB3.out.mono HBr.out.size)⟩
        have hR3 := HRr.out.move HB3.out (by have := HBA2.out.size; have := HZ.out; omega)
        clear hB3 hC
        rcases h3 with ⟨hn, rfl⟩ | ⟨z, hz, rfl, hO⟩
        · have HNO : Aside0 (crP s = none) := ⟨by rw [HCR.out]; exact HST.out.1 hn⟩
          have hIV : W3.cell? ⟨gIV, 0, none⟩ = some (Ss.EV a3) := (HG.out.2.2.below (HBA2.out.trans (HB3.out.mono HBA2.out.size)))
          have g0 := hR3.c0
          have g1 := hR3.fr
          have HR3 := Aside0.mk hR3
          clear hn hR3
          have hlt : gIV < w.heap.size := HIVL.out
          have hIV2 : (W3.setCell ⟨w.heap.size, 0, none⟩ (.slice none 0 0)).cell? ⟨gIV, 0, none⟩ = some (Ss.EV a3) := (World.cell?_setCell_other _ _ _ _ (by intro e; simp only [Addr.mk.injEq] at e; omega)).trans hIV
          have hR4 := HR3.out.s0 (.slice none 0 0)
          have g2 := hR4.c0
          have HB4 : Aside0 (∀ k, Below w.heap.size w ((W3.setCell ⟨w.heap.size, 0, none⟩ (.slice none 0 0)).drewN k)) := ⟨fun k => pw_below_drewN ((HB.out.trans ((HBA2.out.trans (HB3.out.mono HBA2.out.size)).mono HB.out.size)).setCell (p := ⟨w.heap.size, 0, none⟩) (Nat.le_refl _) _) k⟩
          clear hlt hR4
          go_wp2
          go_region
          all_goals
            go_wp2
            exact bodyPost_ret (v := .tuple #[.agg #[.slice none 0 0], Ss.EV a3]) (by simp [results, Tryd.results33, go_sem, g2]) rfl ⟨HB4.out 1, .inl ⟨HNO.out, _, rfl⟩⟩
        · have hlt := Kd.R_lt HO.out
          have HB3c : Aside0 (Below W2.heap.size W2 W3) := HB3r
          have HO1 : Aside0 (Kd.R Big.kd 74 W3 W2.heap.size (fun _ => True) u5 zs) := ⟨Kd.R_below HO.out HB3.out⟩
          have HM : Aside0 (Big.kd.M W3 W2.heap.size (fun k => True ∧ some k ≠ u5.ownBlock) z [.pointer (some ⟨wr.heap.size, 0, none⟩)]) := ⟨⟨_, rfl, Big.Own.mono (fun k hk => ⟨trivial, fun e => by
            have h1 := hlt k e.symm
            have h2 := hk.2.1
            omega⟩) (Big.Own.lower HBr.out.size hO.bound)⟩⟩
          have HST2 := Aside0.mk (HST.out.2 z hz)
          have HL : Aside0 (zs.length + 1 ≤ 1000001) := ⟨by have := HXL.out; omega⟩
          clear hz hO hlt hR3
          go_wp2_with ((with_reducible refine gate_builtin (b := .append) (xs := #[.tmp 35, .tmp 37]) rfl ?_); at_builtin; refine Kd.R_append Big.kd (w0 := W2) W2.heap.size rfl (.tmp 35) (.tmp 37) 45 74 (.pointer none) 8 rfl Tryd.underlying45 cr_infoP rfl (by decide) (by omega) u5 zs z [.pointer (some ⟨wr.heap.size, 0, none⟩)] (fun _ => True) (fun k => True ∧ some k ≠ u5.ownBlock) rfl (by first | rfl | (go_simp; done)) HM.out (fun _ hk => hk) (fun _ _ => trivial) HO1.out HB3r.out HB3r.out.size (by have := HL.out; omega) ?_)
          intro v1 W4 ho hb2 hg hat
          have HO2 := Aside0.mk ho
          have HB4 := Aside0.mk hb2
          clear ho hb2 hg hat HM HO1
          go_wp2
          go_roundw
          case rel => exact ⟨i + 1, zs ++ [z], by go_num, by have := HXL.out.1; omega, HO2, HB4, ⟨HST2.out, by rw [List.length_append, HXL.out.2]; rfl⟩⟩
          case measure =>
            have := HXL.out.1
            show n - crN _ < n - crN _
            simp only [crN]
            omega
      · obtain rfl : i = n := by omega
        have hd : decide ((i : Int) < (i : Int)) = false := decide_eq_false (by omega)
        have HC : Aside0 (crP s = some zs) := ⟨by rw [HCR.out, HX.out.1, List.drop_of_length_le (by rw [← HN2.out]; exact Nat.le_refl _)]; simp [cvs]⟩
        have hlow : W2.heap.size > w.heap.size := by have := HB2.out.size; have := HZ.out; omega
        have hof := Kd.R_far (p := ⟨w.heap.size, 0, none⟩) (Kd.R_bound HO.out) (fun k hk e => by have h1 := hk.2.1; have e2 : k = w.heap.size := e; omega) u5
        obtain ⟨A, c, rfl, hc, hrd⟩ := Kd.R_reads hof
        have hq := hRr.s0 (.slice A zs.length c)
        have HBW : Aside0 (Below w.heap.size w (wr.setCell ⟨w.heap.size, 0, none⟩ (.slice A zs.length c))) := ⟨(HB.out.trans (HBA2.out.mono HB.out.size)).setCell (p := ⟨w.heap.size, 0, none⟩) (Nat.le_refl _) _⟩
        have g0 := hRr.c0
        have g1 := hRr.fr
        obtain ⟨w3, hw3⟩ : ∃ w3, wr.setCell ⟨w.heap.size, 0, none⟩ (.slice A zs.length c) = w3 := ⟨_, rfl⟩
        rw [hw3] at hq HBW hrd
        have p0 := hq.c0
        have HRD := Aside0.mk (And.intro hrd hc)
        clear hof hrd hq hRr hlow hi HO HX
        go_wp2
        exact bodyPost_ret (v := .tuple #[.agg #[.slice A zs.length c], .nilIface]) (by simp [results, Tryd.results33, go_sem, p0]) rfl ⟨HBW.out, .inr ⟨zs, A, c, HC.out, rfl, HRD.out.1, HRD.out.2⟩⟩

end Go.Proofs.YtmhlmkefnmdbcaaDoor.Z
