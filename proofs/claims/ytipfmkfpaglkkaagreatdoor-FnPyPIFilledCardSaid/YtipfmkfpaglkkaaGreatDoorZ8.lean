-- Written by a program of this session (myprint.py).
import Derived.Test.YtipfmkfpaglkkaaGreatDoorZ0
import Derived.Test.YtipfmkfpaglkkaaGreatDoorZ7
import Derived.Test.YtipfmkfpaglkkaaGreatDoorBg
import Derived.Test.YtipfmkfpaglkkaaGreatDoorBn
import Derived.Test.YtipfmkfpaglkkaaGreatDoorGe
namespace Go.Proofs.YtipfmkfpaglkkaaGreatDoor.Z
open Go.Proofs.YtipfmkfpaglkkaaGreatDoor.Gw
open Go.RowKit Go.Proofs.YtipfmkfpaglkkaaGreatDoorW.PrintWords Go.Proofs.YtipfmkfpaglkkaaGreatDoorW.PrintLast Go.Proofs.YtipfmkfpaglkkaaGreatDoorW.PrintMore
attribute [local go_sem high] Go.Proofs.YtipfmkfpaglkkaaGreatDoor.Ge.gtr_str
attribute [local go_sem] max2_int min2_int max_two min_two max_three min_three max_four min_four   -- for this text's walks alone
set_option linter.unusedVariables false
set_option linter.unusedSimpArgs false

-- PLUGGED semantic_zzBigs: function 47 (a text of this session)
theorem bgs_info : (Tryz.prog.info? 44).map (fun i => (i.zero, i.size, i.bytes)) = some (some (.pointer none), 1, 8) := by kernel_rfl
theorem at_ZZ {w : World} {A : Option Addr} {n : Nat} {xs : List S60} (h : Kd.C k60 w A n xs) (i : Nat) (h1 : i < xs.length) (hn : n = xs.length) : ∃ ad, A = some ad ∧ w.cell? (ad.add (i * 2)) = some (.bool (xs[i]).f0) ∧ w.cell? ⟨(ad.add (i * 2)).block, (ad.add (i * 2)).off + 1, none⟩ = some (.string (xs[i]).f1) := by
 obtain ⟨ad, c, e, _, hK, hc0⟩ := Kd.C_get h xs[i] (i : Int) (by omega) (by omega)
 have hc : ∀ j u, c[j]? = some u → w.cell? (ad.add (i * 2 + j)) = some u := hc0
 have hg : xs.getD (i : Int).toNat xs[i] = xs[i] := by rw [Int.toNat_natCast, List.getD_eq_getElem?_getD, List.getElem?_eq_getElem h1]; rfl
 rw [hg] at hK
 obtain rfl := k60_open hK
 exact ⟨ad, e, hc 0 _ rfl, by rw [← add_field _ _ 1 (by omega)]; exact hc 1 _ rfl⟩
def zvS (x : S60) : Int := zval x.f0 x.f1
def bzN : Value → Nat
 | .int _ n => n.toNat
 | _ => 0
set_option maxRecDepth 100000 in
set_option maxHeartbeats 4000000 in
theorem big_zzBigs (A : Option Addr) (c : Nat) (l : List S60) (w : World) (hr : Kd.C k60 w A l.length l) (hc : l.length ≤ c) (hs : ∀ x ∈ l, x.f1.size ≤ 1000000) (hl : l.length ≤ 1000000) :
  Calls Tryz.prog 47 #[.slice A l.length c] w fun e w' => ∃ v, e = .returned v ∧ Kd.R Big.kd 44 w' w.heap.size (fun _ => True) v (l.map zvS) ∧ Below w.heap.size w w' := by
 have HR := Aside0.mk hr
 have HC := Aside0.mk hc
 have HS := Aside0.mk hs
 clear hr hc hs
 have hu := Tryz.underlying60
 go_enter Tryz.func47, Tryz.ntmps47
 go_wp2
 go_loopw [3, 8] (fun v3 v8 wr => ∃ i : Nat, v8 = .int .i64 (i : Int) ∧ Aside0 (Kd.R Big.kd 44 wr w.heap.size (fun _ => True) v3 ((l.map zvS).take i)) ∧ Aside0 (Below w.heap.size w wr) ∧ i ≤ l.length) (fun v3 v8 wr => l.length - bzN v8)
 case atStart => exact ⟨0, rfl, ⟨Kd.R_nil _ _ _ _ _⟩, ⟨Below.refl _ _⟩, by omega⟩
 case round =>
  obtain ⟨i, rfl, HO, HB, hi⟩ := hrel
  by_cases h : i < l.length
  ·have hd : decide ((i : Int) < (l.length : Int)) = true := decide_eq_true (by omega)
   have hi0 : (0 : Int) ≤ (i : Int) := by omega
   have hi1 : (i : Int) < (l.length : Int) := by omega
   obtain ⟨ad, hA, hx0, hx1⟩ := at_ZZ (Kd.C_below HR.out HB.out) i h rfl
   subst hA
   have HX := Aside0.mk (HS.out _ (List.getElem_mem h))
   have HT : Aside0 ((l.map zvS).take i ++ [zvS l[i]] = (l.map zvS).take (i + 1)) := ⟨by rw [← List.take_append_getElem (by simpa using h : i < (l.map zvS).length), List.getElem_map]⟩
   have hzz : zvS l[i] = zval l[i].f0 l[i].f1 := rfl
   generalize zvS l[i] = zz at HT hzz
   generalize l[i].f0 = b0 at hx0 hzz
   generalize l[i].f1 = b1 at hx1 HX hzz
   subst hzz
   go_wp2_with (go_at_call 46; refine (big_zzBig b0 b1 _ HX.out).mono ?_)
   rintro e W1 ⟨v, rfl, hown, hb⟩
   have HB1 : Aside0 (Below w.heap.size w W1) := ⟨(HB.out.alloc HB.out.size _).trans (hb.mono (by have := HB.out.size; simp; omega))⟩
   have HO1 : Aside0 (Kd.R Big.kd 44 W1 w.heap.size (fun _ => True) u3 ((l.map zvS).take i)) := ⟨Kd.R_below (Kd.R_alloc HO.out _) hb⟩
   have hlt := Kd.R_lt HO.out
   obtain ⟨o, hvo⟩ : ∃ o, v = .pointer (some ⟨o, 0, none⟩) := by obtain ⟨o, u, neg, ws, e, _⟩ := hown; exact ⟨o, e⟩
   subst hvo
   have HM : Aside0 (Big.kd.M W1 w.heap.size (fun k => True ∧ some k ≠ u3.ownBlock) (zval b0 b1) [.pointer (some ⟨o, 0, none⟩)]) := ⟨⟨_, rfl, Big.Own.mono (fun k hk => ⟨trivial, fun e => by
    have h1 := hlt k e.symm
    have h2 := hk.2.1
    simp at h2
    omega⟩) (Big.Own.lower (by have := HB.out.size; simp; omega) hown.bound)⟩⟩
   have HL : Aside0 (((l.map zvS).take i).length + 1 ≤ 1000001) := ⟨by simp; omega⟩
   clear hown hb hlt
   go_wp2_with ((with_reducible refine gate_builtin (b := .append) (xs := #[.tmp 12, .tmp 15]) rfl ?_); at_builtin; refine Kd.R_append Big.kd (w0 := w) w.heap.size rfl (.tmp 12) (.tmp 15) 45 44 (.pointer none) 8 rfl Tryz.underlying45 bgs_info rfl (by decide) (by omega) u3 ((l.map zvS).take i) (zval b0 b1) [.pointer (some ⟨o, 0, none⟩)] (fun _ => True) (fun k => True ∧ some k ≠ u3.ownBlock) rfl (by first | rfl | (go_simp; done)) HM.out (fun _ hk => hk) (fun _ _ => trivial) HO1.out HB1.out HB1.out.size (by have := HL.out; omega) ?_)
   intro v1 W2 ho hb2 hg hat
   rw [HT.out] at ho
   have HO2 := Aside0.mk ho
   have HB2 := Aside0.mk hb2
   clear ho hb2 hg hat HM HO1 HB1
   go_wp2
   go_roundw
   case rel => exact ⟨i + 1, rfl, HO2, HB2, by omega⟩
   case measure =>
    show l.length - bzN _ < l.length - bzN _
    simp only [bzN]
    omega
  ·have hd : decide ((i : Int) < (l.length : Int)) = false := decide_eq_false (by omega)
   have HO2 := HO.out
   rw [List.take_of_length_le (by simp; omega)] at HO2
   have HO3 := Aside0.mk HO2
   clear HO2 HO
   go_wp2
   go_ret
   exact ⟨_, rfl, HO3.out, HB.out⟩

end Go.Proofs.YtipfmkfpaglkkaaGreatDoor.Z
