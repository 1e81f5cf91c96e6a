-- Written by a program of this session (myprint.py).
import Derived.Test.YtmhlmkefnmdbcaaDoorZ0
import Derived.Test.YtmhlmkefnmdbcaaDoorZ2
import Derived.Test.YtmhlmkefnmdbcaaDoorZ3
import Derived.Test.YtmhlmkefnmdbcaaDoorBy
import Derived.Test.YtmhlmkefnmdbcaaDoorGe
namespace Go.Proofs.YtmhlmkefnmdbcaaDoor.Z
open Go.Proofs.YtmhlmkefnmdbcaaDoor.Gw
open Go.RowKit Go.Proofs.YtmhlmkefnmdbcaaDoorW.PrintWords Go.Proofs.YtmhlmkefnmdbcaaDoorW.PrintLast Go.Proofs.YtmhlmkefnmdbcaaDoorW.PrintMore
attribute [local go_sem high] Go.Proofs.YtmhlmkefnmdbcaaDoor.Ge.gtr_str
attribute [local go_sem] max2_int min2_int max_two min_two max_three min_three max_four min_four   -- for this text's walks alone
set_option linter.unusedVariables false
set_option linter.unusedSimpArgs false

-- PLUGGED semantic_zzReplaceAll: function 60 (a text of this session)
def zrF (c d : UInt8) (x : UInt8) : UInt8 := if x = c then d else x
theorem zr_cut (c d : UInt8) : ∀ r : List UInt8, (zsI c r = -1 → r.map (zrF c d) = r) ∧ ∀ m : Nat, zsI c r = (m : Int) → m < r.length → r.map (zrF c d) = r.take m ++ d :: (r.drop (m + 1)).map (zrF c d)
  | [] => ⟨fun _ => rfl, fun m _ h => by simp at h⟩
  | x :: r => by
    by_cases h : x = c
    · subst h
      refine ⟨fun h => ?_, fun m hm _ => ?_⟩
      · have : zsI x (x :: r) = 0 := by simp [zsI]
        omega
      · have h0 : zsI x (x :: r) = 0 := by simp [zsI]
        have : m = 0 := by omega
        subst this
        simp [zrF]
    · have hn : (x != c) = true := by simpa using h
      have h1 : (x :: r).dropWhile (· != c) = r.dropWhile (· != c) := by rw [List.dropWhile_cons, if_pos hn]
      have h2 : (x :: r).takeWhile (· != c) = x :: r.takeWhile (· != c) := by rw [List.takeWhile_cons, if_pos hn]
      obtain ⟨i1, i2⟩ := zr_cut c d r
      have hx : zrF c d x = x := if_neg h
      refine ⟨fun h3 => ?_, fun m h3 h4 => ?_⟩
      · unfold zsI at h3
        rw [h1] at h3
        split at h3
        · rename_i h6
          rw [List.map_cons, hx, i1 (by unfold zsI; rw [if_pos h6])]
        · omega
      · unfold zsI at h3
        rw [h1, h2] at h3
        split at h3
        · omega
        · rename_i h6
          rw [List.length_cons] at h3
          obtain ⟨k, rfl⟩ : ∃ k, m = k + 1 := ⟨m - 1, by omega⟩
          rw [List.map_cons, hx, i2 k (by unfold zsI; rw [if_neg h6]; omega) (by simpa using h4)]
          rfl
def semantic_zzReplaceAll.f (a0 a1 a2 : ByteArray) : Option ByteArray := if a0.size ≤ 1000000 ∧ a1.size = 1 ∧ a2.size = 1 then some (By.ofL ((By.bl a0).map (zrF (a1.data.getD 0 0) (a2.data.getD 0 0)))) else none
theorem zr_info : (Tryd.prog.info? 5).map (fun i => (i.zero, i.size, i.bytes)) = some (some (.int .u8 0), 1, 1) := by kernel_rfl
theorem zr_bytes (l : List UInt8) : bytesOf (By.ofL l) = By.numsOf l := rfl
set_option maxRecDepth 100000 in
set_option maxHeartbeats 4000000 in
theorem semantic_zzReplaceAll.calls (a0 a1 a2 : ByteArray) (r : ByteArray) (w : World) (h : semantic_zzReplaceAll.f a0 a1 a2 = some r) :
    Calls Tryd.prog 60 #[.string a0, .string a1, .string a2] w fun e w' => e = .returned (.string r) ∧ Below w.heap.size w w' := by
  unfold semantic_zzReplaceAll.f at h
  split at h
  · rename_i hf
    obtain ⟨hf0, hf1, hf2⟩ := hf
    obtain ⟨c, hc⟩ : ∃ c, a1 = By.ofL [c] := by
      have : (By.bl a1).length = 1 := by rw [By.bl_length]; exact hf1
      obtain ⟨c, hc⟩ := List.length_eq_one_iff.1 this
      exact ⟨c, by rw [← hc, By.ofL_bl]⟩
    subst hc
    obtain ⟨d, hd⟩ : ∃ d, a2 = By.ofL [d] := by
      have : (By.bl a2).length = 1 := by rw [By.bl_length]; exact hf2
      obtain ⟨d, hd⟩ := List.length_eq_one_iff.1 this
      exact ⟨d, by rw [← hd, By.ofL_bl]⟩
    subst hd
    obtain ⟨l, hl⟩ : ∃ l, a0 = By.ofL l := ⟨By.bl a0, (By.ofL_bl a0).symm⟩
    subst hl
    rw [By.ofL_size] at hf0
    have hcc : (By.ofL [c]).data.getD 0 0 = c := rfl
    have hdd : (By.ofL [d]).data.getD 0 0 = d := rfl
    rw [hcc, hdd, By.bl_ofL] at h
    have HRES : Aside0 (r = By.ofL (l.map (zrF c d))) := ⟨(Option.some.inj h).symm⟩
    have HL : Aside0 (l.length ≤ 1000000) := ⟨hf0⟩
    obtain ⟨sp, hsp⟩ : ∃ sp, sp = By.ofL [c] := ⟨_, rfl⟩
    have hs1 : sp.size = 1 := by rw [hsp]; rfl
    obtain ⟨nw, hnw⟩ : ∃ nw, nw = By.ofL [d] := ⟨_, rfl⟩
    have HNW : Aside0 (nw = By.ofL [d]) := ⟨hnw⟩
    have hIx : Aside0 (∀ (q : List UInt8) (W : World), q.length ≤ 1000000 → Calls Tryd.prog 74 #[.string (By.ofL q), .string sp] W fun e w' => e = .returned (.int .i64 (zsI c q)) ∧ Drawn0 W w') := ⟨fun q W hq => by
      obtain ⟨k, hk⟩ := zs_ev c q (by omega)
      rw [hsp]
      exact semantic_zzIndex.calls k _ _ _ W (hk k (Nat.le_refl k))⟩
    rw [← hsp, ← hnw]
    clear h hf0 hf1 hf2 hcc hdd hsp hnw
    go_enter Tryd.func60, Tryd.ntmps60
    go_wp2
    go_loopw [0, 7] (fun v0 v7 wr => ∃ (q P : List UInt8), v0 = .string (By.ofL q) ∧ Aside0 (wr.ownsRow w.heap.size 5 1 v7 (By.numsOf P).length (nums .u8 (By.numsOf P))) ∧ Aside0 (Below w.heap.size w wr) ∧ Aside0 (P ++ q.map (zrF c d) = l.map (zrF c d) ∧ P.length + q.length ≤ 1000000)) (fun v0 v7 wr => zsN v0)
    case atStart => exact ⟨l, [], rfl, ⟨own_nil _ _ _ _⟩, ⟨Below.refl _ _⟩, ⟨rfl, by have := HL.out; simpa using this⟩⟩
    case round =>
      obtain ⟨q, P, rfl, HO, HB, HX⟩ := hrel
      have hC := Aside0.mk (hIx.out q wr (by have := HX.out.2; omega))
      have hz := zs_cut c q
      have hzr := zr_cut c d q
      obtain ⟨i, hi⟩ : ∃ i, i = zsI c q := ⟨_, rfl⟩
      rw [← hi] at hC hz hzr
      rcases hz with ⟨rfl, hz⟩ | ⟨m, rfl, hm, hz⟩
      · have HZ : Aside0 (P ++ q = l.map (zrF c d)) := ⟨by rw [← HX.out.1, hzr.1 rfl]⟩
        obtain ⟨qs, hqs⟩ : ∃ qs, qs = By.ofL q := ⟨_, rfl⟩
        rw [← hqs] at hC ⊢
        have HQ := Aside0.mk hqs
        clear hi hz hzr hqs
        go_wp2_with (go_at_call 74; (with_reducible refine (hC.out).mono ?_))
        rintro e w' ⟨rfl, ⟨nd, rfl⟩⟩
        have HB1 : Aside0 (Below w.heap.size w (wr.drewN nd)) := ⟨pw_below_drewN HB.out _⟩
        have HO1 := Aside0.mk (pw_own_drewN HO.out nd)
        clear hC
        go_wp2_with ((with_reducible refine gate_builtin (b := .append) (xs := #[.tmp 50, .tmp 51]) rfl ?_); at_builtin; refine print_append_str (w0 := w) w.heap.size rfl (.tmp 50) (.tmp 51) 91 9 5 rfl Tryd.underlying91 Tryd.underlying9 zr_info u7 (By.numsOf P) qs rfl rfl HO1.out HB1.out HB1.out.size (by rw [HQ.out, By.numsOf_length, By.ofL_size]; have := HX.out.2; omega) ?_)
        intro v1 W2 ho hb2 hg
        have hcv := own_string (P := Tryd.prog) Tryd.underlying91 Tryd.underlying5 Tryd.underlying9 ho
        have hst : strOfNums (By.numsOf P ++ bytesOf qs) = r := by rw [HQ.out, zr_bytes, By.numsOf_append, By.strOf_numsOf, HZ.out, HRES.out]
        rw [hst] at hcv
        have HB2 := Aside0.mk hb2
        clear ho hb2 hg hst HO1 HB1
        go_wp2
        go_ret
        exact ⟨rfl, HB2.out⟩
      · obtain ⟨x, hx⟩ : ∃ x, x = By.ofL (q.take m) := ⟨_, rfl⟩
        have HZ : Aside0 (((P ++ q.take m) ++ [d]) ++ (q.drop (m + 1)).map (zrF c d) = l.map (zrF c d) ∧ ((P ++ q.take m) ++ [d]).length + (q.drop (m + 1)).length ≤ 1000000) := ⟨by rw [← HX.out.1, hzr.2 m rfl hm]; simp, by have := HX.out.2; simp; omega⟩
        have HML : Aside0 (m < q.length) := ⟨hm⟩
        have hsz := By.ofL_size q
        have hex : (By.ofL q).extract 0 m = x := by
          rw [hx, By.ofL_extract]
          rfl
        have hex2 : (By.ofL q).extract (m + 1) (By.ofL q).size = By.ofL (q.drop (m + 1)) := by
          rw [hsz, By.ofL_extract, List.take_of_length_le (Nat.le_refl _)]
        obtain ⟨qs, hqs⟩ : ∃ qs, qs = By.ofL q := ⟨_, rfl⟩
        rw [← hqs] at hC hsz hex hex2
        rw [← hqs]
        have hd : decide ((m : Int) < 0) = false := decide_eq_false (by omega)
        have hm0 : (0 : Int) ≤ (m : Int) := by omega
        have hm1 : (m : Int) ≤ (qs.size : Int) := by omega
        have hm2 : m ≤ qs.size := by omega
        have hm3 : (m : Int) + 1 ≤ (qs.size : Int) := by omega
        have hm4 : m + 1 ≤ qs.size := by omega
        have hmw : wrap64 ((m : Int) + 1) = (m : Int) + 1 := by have := HX.out.2; unfold wrap64; omega
        have hmt : ((m : Int) + 1).toNat = m + 1 := by omega
        have hmz : (0 : Int) ≤ (m : Int) + 1 := by omega
        have hqz : qs.size ≤ 9223372036854775807 := by have := HX.out.2; omega
        have HQ := Aside0.mk hqs
        have HXE : Aside0 (bytesOf x = By.numsOf (q.take m) ∧ x.size = m) := ⟨by rw [hx, zr_bytes], by rw [hx, By.ofL_size, List.length_take]; omega⟩
        clear hi hz hx hm hqs hsz hzr
        go_wp2_with (go_at_call 74; (with_reducible refine (hC.out).mono ?_))
        rintro e w' ⟨rfl, ⟨nd, rfl⟩⟩
        have HB1 : Aside0 (Below w.heap.size w (wr.drewN nd)) := ⟨pw_below_drewN HB.out _⟩
        have HO1 := Aside0.mk (pw_own_drewN HO.out nd)
        clear hC
        go_wp2_with ((with_reducible refine gate_builtin (b := .append) (xs := #[.tmp 54, .tmp 57]) rfl ?_); at_builtin; refine print_append_str (w0 := w) w.heap.size rfl (.tmp 54) (.tmp 57) 91 9 5 rfl Tryd.underlying91 Tryd.underlying9 zr_info u7 (By.numsOf P) x rfl (by first | rfl | (go_simp; done)) HO1.out HB1.out HB1.out.size (by rw [By.numsOf_length, HXE.out.2]; have := HX.out.2; have := HML.out; omega) ?_)
        intro v1 W2 ho hb2 hg
        rw [HXE.out.1, By.numsOf_append] at ho
        have elen : (By.numsOf P).length + (By.numsOf (q.take m)).length = (By.numsOf (P ++ q.take m)).length := by rw [By.numsOf_length, By.numsOf_length, By.numsOf_length, List.length_append]
        rw [elen] at ho
        have HO2 := Aside0.mk ho
        clear elen
        have HB2 := Aside0.mk hb2
        have HLIM : Aside0 ((By.numsOf (P ++ q.take m)).length + nw.size ≤ 140737488355328) := ⟨by
          have h1 := HX.out.2
          have h2 := HML.out
          have h3 : nw.size = 1 := by rw [HNW.out]; rfl
          rw [By.numsOf_length, h3, List.length_append, List.length_take]
          omega⟩
        clear ho hb2 hg HO1 HB1
        go_wp2_with ((with_reducible refine gate_builtin (b := .append) (xs := #[.tmp 58, .tmp 59]) rfl ?_); at_builtin; refine print_append_str (w0 := w) w.heap.size rfl (.tmp 58) (.tmp 59) 91 9 5 rfl Tryd.underlying91 Tryd.underlying9 zr_info v1 (By.numsOf (P ++ q.take m)) nw (by first | rfl | (go_simp; done)) (by first | rfl | (go_simp; done)) HO2.out HB2.out HB2.out.size HLIM.out ?_)
        intro v2 W3 ho hb3 hg
        rw [HNW.out, zr_bytes, By.numsOf_append] at ho
        have elen : (By.numsOf (P ++ q.take m)).length + (By.numsOf [d]).length = (By.numsOf ((P ++ q.take m) ++ [d])).length := by rw [By.numsOf_length, By.numsOf_length, By.numsOf_length, List.length_append (bs := [d])]
        rw [elen] at ho
        have HO3 := Aside0.mk ho
        clear elen
        have HB3 := Aside0.mk hb3
        clear ho hb3 hg HO2 HB2
        go_wp2
        go_roundw
        case rel => exact ⟨q.drop (m + 1), (P ++ q.take m) ++ [d], rfl, HO3, HB3, HZ⟩
        case measure =>
          show zsN _ < zsN _
          simp only [zsN]
          rw [HQ.out, By.ofL_size, By.ofL_size, List.length_drop]
          have := HML.out
          omega
  · cases h

end Go.Proofs.YtmhlmkefnmdbcaaDoor.Z
