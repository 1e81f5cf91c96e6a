-- Written by a program of this session (myprint.py).
import Derived.Test.YtgnkjjgbdlkidaaGreatDoorZ0
import Derived.Test.YtgnkjjgbdlkidaaGreatDoorZ4
import Derived.Test.YtgnkjjgbdlkidaaGreatDoorBy
import Derived.Laws.MakeOwn
import Derived.Test.YtgnkjjgbdlkidaaGreatDoorGe
namespace Go.Proofs.YtgnkjjgbdlkidaaGreatDoor.Z
open Go.Proofs.YtgnkjjgbdlkidaaGreatDoor.Gw
open Go.RowKit Go.Proofs.YtgnkjjgbdlkidaaGreatDoorW.PrintWords Go.Proofs.YtgnkjjgbdlkidaaGreatDoorW.PrintLast Go.Proofs.YtgnkjjgbdlkidaaGreatDoorW.PrintMore
attribute [local go_sem high] Go.Proofs.YtgnkjjgbdlkidaaGreatDoor.Ge.gtr_str
attribute [local go_sem] max2_int min2_int max_two min_two max_three min_three max_four min_four   -- for this text's walks alone
set_option linter.unusedVariables false
set_option linter.unusedSimpArgs false

-- PLUGGED semantic_zzSplit: function 27 (a text of this session)
def zsI (c : UInt8) (l : List UInt8) : Int := if (l.dropWhile (· != c)) = [] then -1 else ((l.takeWhile (· != c)).length : Int)
theorem zs_split (c : UInt8) (l : List UInt8) : ∀ i : Nat, (∀ x ∈ l.take i, (x != c) = true) → l.takeWhile (· != c) = l.take i ++ (l.drop i).takeWhile (· != c) ∧ l.dropWhile (· != c) = (l.drop i).dropWhile (· != c) := by
  intro i h
  have e := List.take_append_drop i l
  constructor
  · conv => lhs; rw [← e]
    exact List.takeWhile_append_of_pos h
  · conv => lhs; rw [← e]
    exact List.dropWhile_append_of_pos h
theorem zs_ext (l : List UInt8) (i : Nat) (h : i < l.length) : (By.ofL l).extract ((i : Int)).toNat (((i + 1 : Nat) : Int)).toNat = By.ofL [l[i]] := by
  rw [Int.toNat_natCast, Int.toNat_natCast, By.ofL_extract]
  congr 1
  rw [List.take_succ_eq_append_getElem h, List.drop_append_of_le_length (by rw [List.length_take]; omega), List.drop_of_length_le (by rw [List.length_take]; omega)]
  rfl
theorem zs_l (c : UInt8) (l : List UInt8) (hl : l.length ≤ 140737488351232) (d : Nat) : ∀ i : Nat, i + d = l.length → (∀ x ∈ l.take i, (x != c) = true) → Ev (fun k => semantic_zzIndex.l0 k (By.ofL l) (By.ofL [c]) (i : Int)) (zsI c l) := by
  have hs := By.ofL_size l
  have hs1 : (By.ofL [c]).size = 1 := rfl
  induction d with
  | zero =>
    intro i h hp
    have hw : wrap64 ((i : Int) + 1) = ((i + 1 : Nat) : Int) := Evs.wrap_nat (by omega)
    refine Ev.step (fun _ => by rw [semantic_zzIndex.l0, hs1]) (Evs.ev_neg (by show ¬ wrap64 ((i : Int) + 1) ≤ _; rw [hw]; omega) (Evs.ev_now ?_))
    have := (zs_split c l i hp).2
    rw [List.drop_of_length_le (by omega)] at this
    rw [zsI, if_pos (show List.dropWhile (fun x => x != c) l = [] from this)]
  | succ d ih =>
    intro i h hp
    have hi : i < l.length := by omega
    have hw : wrap64 ((i : Int) + 1) = ((i + 1 : Nat) : Int) := Evs.wrap_nat (by omega)
    have hw2 : wrap64 ((i : Int) + ((1 : Nat) : Int)) = ((i + 1 : Nat) : Int) := hw
    refine Ev.step (fun _ => by rw [semantic_zzIndex.l0, hs1, hw2, hw, zs_ext l i hi, By.toList_ofL, By.toList_ofL]) (Evs.ev_pos (by omega) (Evs.ev_pos (by omega) (Evs.ev_pos (by omega) ?_)))
    by_cases e : l[i]'hi = c
    · refine Evs.ev_pos (congrArg (fun x => [x]) e) (Evs.ev_now ?_)
      have h1 := zs_split c l i hp
      rw [List.drop_eq_getElem_cons hi, List.dropWhile_cons, List.takeWhile_cons, if_neg (by simp [e]), if_neg (by simp [e])] at h1
      have h2 : ¬ List.dropWhile (fun x => x != c) l = [] := fun hh => by
        have := h1.2.symm.trans hh
        cases this
      rw [zsI, if_neg h2, h1.1, List.append_nil, List.length_take]
      omega
    · refine Evs.ev_neg (fun h => e (by simpa using h)) (ih (i + 1) (by omega) (fun x hx => ?_))
      rw [List.take_succ_eq_append_getElem hi, List.mem_append] at hx
      rcases hx with hx | hx
      · exact hp x hx
      · simp at hx
        subst hx
        simpa using e
theorem zs_ev (c : UInt8) (l : List UInt8) (hl : l.length ≤ 140737488351232) : Ev (fun k => semantic_zzIndex.f k (By.ofL l) (By.ofL [c])) (zsI c l) := zs_l c l hl l.length 0 (by omega) (by simp)
theorem zs_cut (c : UInt8) : ∀ r : List UInt8, (zsI c r = -1 ∧ By.cutP (· == c) r = [r]) ∨ ∃ m : Nat, zsI c r = (m : Int) ∧ m < r.length ∧ By.cutP (· == c) r = r.take m :: By.cutP (· == c) (r.drop (m + 1))
  | [] => .inl ⟨rfl, rfl⟩
  | x :: r => by
    by_cases h : x = c
    · subst h
      refine .inr ⟨0, ?_, by simp, ?_⟩
      · simp [zsI]
      · rw [By.cutP, if_pos (by simp)]
        rfl
    · have hn : (x != c) = true := by simpa using h
      have he : (x == c) = false := by simpa using h
      have h1 : (x :: r).dropWhile (· != c) = r.dropWhile (· != c) := by rw [List.dropWhile_cons, if_pos hn]
      have h2 : (x :: r).takeWhile (· != c) = x :: r.takeWhile (· != c) := by rw [List.takeWhile_cons, if_pos hn]
      rcases zs_cut c r with ⟨h3, h4⟩ | ⟨m, h3, h4, h5⟩
      · have h6 : r.dropWhile (· != c) = [] := by
          unfold zsI at h3
          split at h3
          · assumption
          · omega
        refine .inl ⟨?_, ?_⟩
        · unfold zsI
          rw [h1, if_pos h6]
        · rw [By.cutP, if_neg (by simp [he]), h4]
      · refine .inr ⟨m + 1, ?_, by simpa using h4, ?_⟩
        · unfold zsI at h3 ⊢
          rw [h1, h2]
          split at h3
          · omega
          · rename_i h6
            rw [if_neg h6, List.length_cons]
            omega
        · rw [By.cutP, if_neg (by simp [he]), h5]
          rfl
def zsN : Value → Nat
  | .string s => s.size
  | _ => 0
theorem zs_info : (Tryz.prog.info? 9).map (fun i => (i.zero, i.size, i.bytes)) = some (some (.string ⟨#[]⟩), 1, 16) := by kernel_rfl
def semantic_zzSplit.f (a0 a1 : ByteArray) : Option (List ByteArray) := if a0.size ≤ 1000000 ∧ a1.size = 1 then some ((By.cutP (· == a1.data.getD 0 0) (By.bl a0)).map By.ofL) else none
set_option maxRecDepth 100000 in
set_option maxHeartbeats 4000000 in
theorem semantic_zzSplit.calls (a0 : ByteArray) (a1 : ByteArray) (r : List ByteArray) (w : World) (h : semantic_zzSplit.f a0 a1 = some r) :
    Calls Tryz.prog 27 #[.string a0, .string a1] w fun e w' => ∃ v0_ : Value, e = .returned (v0_) ∧ Kd.R Kd.string 9 w' w.heap.size (fun _ => True) v0_ r ∧ Below w.heap.size w w' := by
  unfold semantic_zzSplit.f at h
  split at h
  · rename_i hf
    obtain ⟨hf0, hf1⟩ := hf
    obtain ⟨c, hc⟩ : ∃ c, a1 = By.ofL [c] := by
      have : (By.bl a1).length = 1 := by rw [By.bl_length]; exact hf1
      obtain ⟨c, hc⟩ := List.length_eq_one_iff.1 this
      exact ⟨c, by rw [← hc, By.ofL_bl]⟩
    subst hc
    obtain ⟨l, hl⟩ : ∃ l, a0 = By.ofL l := ⟨By.bl a0, (By.ofL_bl a0).symm⟩
    subst hl
    rw [By.ofL_size] at hf0
    have hcc : (By.ofL [c]).data.getD 0 0 = c := rfl
    rw [hcc, By.bl_ofL] at h
    have HRES : Aside0 (r = (By.cutP (· == c) l).map By.ofL) := ⟨(Option.some.inj h).symm⟩
    have HL : Aside0 (l.length ≤ 1000000) := ⟨hf0⟩
    have h1 : ((By.ofL [c]).size : Int) = 1 := rfl
    obtain ⟨sp, hsp⟩ : ∃ sp, sp = By.ofL [c] := ⟨_, rfl⟩
    have hs1 : sp.size = 1 := by rw [hsp]; rfl
    have hIx : Aside0 (∀ (q : List UInt8) (W : World), q.length ≤ 1000000 → Calls Tryz.prog 38 #[.string (By.ofL q), .string sp] W fun e w' => e = .returned (.int .i64 (zsI c q)) ∧ Drawn0 W w') := ⟨fun q W hq => by
      obtain ⟨k, hk⟩ := zs_ev c q (by omega)
      rw [hsp]
      exact semantic_zzIndex.calls k _ _ _ W (hk k (Nat.le_refl k))⟩
    rw [← hsp]
    clear h hf0 hf1 hcc h1 hsp
    go_enter Tryz.func27, Tryz.ntmps27
    go_wp2
    go_loopw [0, 5] (fun v0 v5 wr => ∃ (q : List UInt8) (X : List ByteArray), v0 = .string (By.ofL q) ∧ Aside0 (Kd.R Kd.string 9 wr w.heap.size (fun _ => True) v5 X) ∧ Aside0 (Below w.heap.size w wr) ∧ Aside0 (X ++ (By.cutP (· == c) q).map By.ofL = r ∧ X.length + q.length ≤ 1000000)) (fun v0 v5 wr => zsN v0)
    case atStart => exact ⟨l, [], rfl, ⟨Kd.R_nil _ _ _ _ _⟩, ⟨Below.refl _ _⟩, ⟨by rw [List.nil_append, HRES.out], by have := HL.out; simpa using this⟩⟩
    case round =>
      obtain ⟨q, X, rfl, HO, HB, HX⟩ := hrel
      have hC := Aside0.mk (hIx.out q wr (by have := HX.out.2; omega))
      have hz := zs_cut c q
      obtain ⟨i, hi⟩ : ∃ i, i = zsI c q := ⟨_, rfl⟩
      rw [← hi] at hC hz
      rcases hz with ⟨rfl, hz⟩ | ⟨m, rfl, hm, hz⟩
      · have HZ : Aside0 (X ++ [By.ofL q] = r) := ⟨by rw [← HX.out.1, hz]; rfl⟩
        clear hi hz
        go_wp2_with (go_at_call 38; (with_reducible refine (hC.out).mono ?_))
        rintro e w' ⟨rfl, ⟨nd, rfl⟩⟩
        have HM : Aside0 (Kd.string.M (wr.drewN nd) w.heap.size (fun k => True ∧ some k ≠ u5.ownBlock) (By.ofL q) [.string (By.ofL q)]) := ⟨rfl⟩
        have HB1 : Aside0 (Below w.heap.size w (wr.drewN nd)) := ⟨pw_below_drewN HB.out _⟩
        have HO1 : Aside0 (Kd.R Kd.string 9 (wr.drewN nd) w.heap.size (fun _ => True) u5 X) := ⟨Kd.R_drewN HO.out _⟩
        clear hC
        go_wp2_with ((with_reducible refine gate_builtin (b := .append) (xs := #[.tmp 42, .tmp 44]) rfl ?_); at_builtin; refine Kd.R_append Kd.string (w0 := w) w.heap.size rfl (.tmp 42) (.tmp 44) 28 9 (.string ⟨#[]⟩) 16 rfl Tryz.underlying28 zs_info rfl (by decide) (by omega) u5 X (By.ofL q) [.string (By.ofL q)] (fun _ => True) (fun k => True ∧ some k ≠ u5.ownBlock) rfl (by first | rfl | (go_simp; done)) HM.out (fun _ hk => hk) (fun _ _ => trivial) HO1.out HB1.out HB1.out.size (by have := HX.out.2; omega) ?_)
        intro v1 W2 ho hb2 hg hat
        rw [HZ.out] at ho
        have HO2 := Aside0.mk ho
        have HB2 := Aside0.mk hb2
        clear ho hb2 hg hat HM HO1 HB1
        go_wp2
        go_ret
        exact ⟨_, rfl, HO2.out, HB2.out⟩
      · obtain ⟨x, hx⟩ : ∃ x, x = By.ofL (q.take m) := ⟨_, rfl⟩
        have HZ : Aside0 ((X ++ [x]) ++ (By.cutP (· == c) (q.drop (m + 1))).map By.ofL = r ∧ (X ++ [x]).length + (q.drop (m + 1)).length ≤ 1000000) := ⟨by rw [← HX.out.1, hz, hx]; simp, by have := HX.out.2; rw [List.length_append, List.length_drop]; simp; omega⟩
        have HML : Aside0 (m < q.length) := ⟨hm⟩
        have hsz := By.ofL_size q
        have hex : (By.ofL q).extract 0 m = x := by
          rw [hx, By.ofL_extract]
          rfl
        have hex2 : (By.ofL q).extract (m + 1) (By.ofL q).size = By.ofL (q.drop (m + 1)) := by
          rw [hsz, By.ofL_extract, List.take_of_length_le (Nat.le_refl _)]
        obtain ⟨qs, hqs⟩ : ∃ qs, qs = By.ofL q := ⟨_, rfl⟩
        rw [← hqs] at hC hsz hex hex2
        rw [← hqs]
        have hd : decide ((m : Int) < 0) = false := decide_eq_false (by omega)
        have hm0 : (0 : Int) ≤ (m : Int) := by omega
        have hm1 : (m : Int) ≤ (qs.size : Int) := by omega
        have hm2 : m ≤ qs.size := by omega
        have hm3 : (m : Int) + 1 ≤ (qs.size : Int) := by omega
        have hm4 : m + 1 ≤ qs.size := by omega
        have hmw : wrap64 ((m : Int) + 1) = (m : Int) + 1 := by have := HX.out.2; unfold wrap64; omega
        have hmt : ((m : Int) + 1).toNat = m + 1 := by omega
        have hmz : (0 : Int) ≤ (m : Int) + 1 := by omega
        have hqz : qs.size ≤ 9223372036854775807 := by have := HX.out.2; omega
        have HQ := Aside0.mk hqs
        clear hi hz hx hm hqs hsz
        go_wp2_with (go_at_call 38; (with_reducible refine (hC.out).mono ?_))
        rintro e w' ⟨rfl, ⟨nd, rfl⟩⟩
        have HM : Aside0 (Kd.string.M (wr.drewN nd) w.heap.size (fun k => True ∧ some k ≠ u5.ownBlock) x [.string x]) := ⟨rfl⟩
        have HB1 : Aside0 (Below w.heap.size w (wr.drewN nd)) := ⟨pw_below_drewN HB.out _⟩
        have HO1 : Aside0 (Kd.R Kd.string 9 (wr.drewN nd) w.heap.size (fun _ => True) u5 X) := ⟨Kd.R_drewN HO.out _⟩
        clear hC
        go_wp2_with ((with_reducible refine gate_builtin (b := .append) (xs := #[.tmp 46, .tmp 50]) rfl ?_); at_builtin; refine Kd.R_append Kd.string (w0 := w) w.heap.size rfl (.tmp 46) (.tmp 50) 28 9 (.string ⟨#[]⟩) 16 rfl Tryz.underlying28 zs_info rfl (by decide) (by omega) u5 X x [.string x] (fun _ => True) (fun k => True ∧ some k ≠ u5.ownBlock) rfl (by first | rfl | (go_simp; done)) HM.out (fun _ hk => hk) (fun _ _ => trivial) HO1.out HB1.out HB1.out.size (by have := HX.out.2; omega) ?_)
        intro v1 W2 ho hb2 hg hat
        have HO2 := Aside0.mk ho
        have HB2 := Aside0.mk hb2
        clear ho hb2 hg hat HM HO1 HB1
        go_wp2
        go_roundw
        case rel => exact ⟨q.drop (m + 1), X ++ [x], rfl, HO2, HB2, HZ⟩
        case measure =>
          show zsN _ < zsN _
          simp only [zsN]
          rw [HQ.out, By.ofL_size, By.ofL_size, List.length_drop]
          have := HML.out
          omega
  · cases h

end Go.Proofs.YtgnkjjgbdlkidaaGreatDoor.Z
