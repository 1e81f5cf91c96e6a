-- Written by a program of this session (myprint.py).
import Derived.Test.YtipfmkfpaglkkaaGreatDoorZ0
import Derived.Test.YtipfmkfpaglkkaaGreatDoorZ6
import Derived.Test.YtipfmkfpaglkkaaGreatDoorBg
import Derived.Test.YtipfmkfpaglkkaaGreatDoorBn
import Derived.Test.YtipfmkfpaglkkaaGreatDoorBy
import Derived.Laws.MakeOwn
import Derived.Lib.Builder
import Derived.LaidEqlPtr
import Derived.Test.YtipfmkfpaglkkaaGreatDoorGe
namespace Go.Proofs.YtipfmkfpaglkkaaGreatDoor.Z
open Go.Proofs.YtipfmkfpaglkkaaGreatDoor.Gw
open Go.RowKit Go.Proofs.YtipfmkfpaglkkaaGreatDoorW.PrintWords Go.Proofs.YtipfmkfpaglkkaaGreatDoorW.PrintLast Go.Proofs.YtipfmkfpaglkkaaGreatDoorW.PrintMore
attribute [local go_sem high] Go.Proofs.YtipfmkfpaglkkaaGreatDoor.Ge.gtr_str
attribute [local go_sem] max2_int min2_int max_two min_two max_three min_three max_four min_four   -- for this text's walks alone
set_option linter.unusedVariables false
set_option linter.unusedSimpArgs false

-- PLUGGED semantic_zzBig: function 46 (a text of this session)
theorem bg_infoW : (Tryz.prog.info? Big.TW).map (fun i => (i.zero, i.size, i.bytes)) = some (some (.int .u64 0), 1, 8) := by kernel_rfl
theorem bg_madeR (base : Nat) (n c : Nat) (hnc : n ≤ c) (hc : c ≤ 9223372036854775807) (w : World) (hb : base ≤ w.heap.size) : Kd.R (Kd.int .u64) Big.TW (w.alloc (.cells (madeCells #[Value.int .u64 0] c) Big.TW)) base (fun _ => True) (.slice (some ⟨w.heap.size, 0, none⟩) n c) (List.replicate n 0) := by
 have hrep : Reps ((Kd.int .u64).M (w.alloc (.cells (madeCells #[Value.int .u64 0] c) Big.TW)) base (fun k => True ∧ some k ≠ (Value.slice (some ⟨w.heap.size, 0, none⟩) c c).ownBlock)) 1 (List.replicate c (0 : Int)) (madeCells (Value.int .u64 0).cells (c * 1)).toList :=
  Kd.reps_made (z := .int .u64 0) (size := 1) (z0 := (0 : Int)) rfl (by decide) (by first | rfl | exact ⟨rfl, trivial⟩ | simp [Kd.int, Kd.scalar]) c
 have h2 := World.ownsRow_lit (base := base) (e := Big.TW) (size := 1) w (madeCells #[Value.int .u64 0] c) c hb (by simpa [maxLen] using hc) (by simp [size_madeCells])
 have full : Kd.R (Kd.int .u64) Big.TW (w.alloc (.cells (madeCells #[Value.int .u64 0] c) Big.TW)) base (fun _ => True) (.slice (some ⟨w.heap.size, 0, none⟩) c c) (List.replicate c 0) := by
  refine ⟨fun _ _ => trivial, (madeCells #[Value.int .u64 0] c).toList, ?_, ?_⟩
  ·rw [List.length_replicate]
   exact h2
  ·have e : madeCells (Value.int .u64 0).cells (c * 1) = madeCells #[Value.int .u64 0] c := by rw [Nat.mul_one]; rfl
   rw [e] at hrep
   exact hrep
 have := Kd.R_take (m := n) full (by simpa using hnc)
 rwa [List.take_replicate, Nat.min_eq_left hnc] at this
set_option maxHeartbeats 2000000 in
theorem big_make (n : Nat) (hn : n ≤ 1000000000) (w : World) : Calls Tryz.prog 74 #[.slice none 0 0, .int .i64 (n : Int)] w fun e w' => ∃ v, e = .returned v ∧ Kd.R (Kd.int .u64) Big.TW w' w.heap.size (fun _ => True) v (List.replicate n 0) ∧ Below w.heap.size w w' := by
 obtain ⟨i0, hi, hz0, hz1, hz2⟩ := info_parts bg_infoW
 by_cases h0 : n = 0
 ·subst h0
  have hd : decide (((0 : Nat) : Int) ≤ 0) = true := by decide
  go_enter Tryz.func74, Tryz.ntmps74
  go_wp2
  go_ret
  exact ⟨_, rfl, Kd.R_nil _ _ _ _ _, Below.refl _ _⟩
 ·have hd : decide ((n : Int) ≤ 0) = false := decide_eq_false (by omega)
  by_cases h1 : n = 1
  ·subst h1
   have hm := run_make (P := Tryz.prog) w 77 Big.TW i0 (.int .u64 0) Tryz.underlying77 hi hz0 .i64 .i64 1 1 (by omega) (by omega) (by rw [hz2]; omega) (by omega)
   rw [hz1] at hm
   have HM := Aside0.mk (bg_madeR w.heap.size 1 1 (by omega) (by omega) w (Nat.le_refl _))
   go_enter Tryz.func74, Tryz.ntmps74
   go_wp2
   go_ret
   exact ⟨_, rfl, HM.out, (Below.refl _ _).alloc (Nat.le_refl _) _⟩
  ·have he : ((n : Int) == 1) = false := beq_eq_false_iff_ne.2 (by omega)
   have hm := run_make (P := Tryz.prog) w 77 Big.TW i0 (.int .u64 0) Tryz.underlying77 hi hz0 .i64 .i64 (n : Int) ((n : Int) + 4) (by omega) (by omega) (by rw [hz2]; omega) (by omega)
   rw [hz1] at hm
   have HM := Aside0.mk (bg_madeR w.heap.size n (n + 4) (by omega) (by omega) w (Nat.le_refl _))
   have e4 : ((n : Int) + 4).toNat = n + 4 := by omega
   rw [e4, Int.toNat_natCast] at hm
   go_enter Tryz.func74, Tryz.ntmps74
   go_wp2
   go_ret
   exact ⟨_, rfl, HM.out, (Below.refl _ _).alloc (Nat.le_refl _) _⟩
def bN : Value → Nat
 | .int _ n => n.toNat
 | _ => 0
set_option maxHeartbeats 2000000 in
theorem big_norm (A : Option Addr) (c : Nat) (xs : List Int) (w : World) (hr : Kd.C (Kd.int .u64) w A xs.length xs) (hc : xs.length ≤ c) : Calls Tryz.prog 76 #[.slice A xs.length c] w fun e w' => e = .returned (.slice A (Bn.normLen xs xs.length) c) ∧ w' = w := by
 have HR := Aside0.mk hr
 have HC := Aside0.mk hc
 have hlm := Kd.C_max hr
 clear hr hc
 go_enter Tryz.func76, Tryz.ntmps76
 go_wp2
 go_loopw [3] (fun v3 wr => ∃ i : Nat, v3 = .int .i64 (i : Int) ∧ Aside0 (wr = w) ∧ Aside0 (Bn.normLen xs i = Bn.normLen xs xs.length) ∧ i ≤ xs.length) (fun v3 wr => bN v3)
 case atStart => exact ⟨xs.length, rfl, ⟨rfl⟩, ⟨rfl⟩, Nat.le_refl _⟩
 case round =>
  obtain ⟨i, rfl, ⟨rfl⟩, HN, hi⟩ := hrel
  by_cases h0 : i = 0
  ·subst h0
   have hn0 : Bn.normLen xs xs.length = 0 := HN.out.symm
   have hg : decide ((0 : Int) < ((0 : Nat) : Int)) = false := by decide
   go_wp2
   go_ret
   refine ⟨?_, rfl⟩
   rw [hn0]
   rfl
  ·obtain ⟨m, rfl⟩ : ∃ m, i = m + 1 := ⟨i - 1, by omega⟩
   have hg : decide ((0 : Int) < ((m + 1 : Nat) : Int)) = true := decide_eq_true (by omega)
   have hm0 : (0 : Int) ≤ (m : Int) := by omega
   have hm1 : (m : Int) < (xs.length : Int) := by omega
   obtain ⟨ad, rfl, hx⟩ := Kd.at_int HR.out (m : Int) hm0 hm1
   rw [Int.toNat_natCast] at hx
   have hrd : rd xs (m : Int) = xs.getD m 0 := by simp [rd]
   have hs1 : ((m + 1 : Nat) : Int) - 1 = (m : Int) := by omega
   have HN1 : Aside0 (Bn.normLen xs xs.length = if rd xs (m : Int) = 0 then Bn.normLen xs m else m + 1) := ⟨by rw [← HN.out, Bn.normLen, hrd]⟩
   clear hrd
   generalize rd xs (m : Int) = x at hx HN1
   by_cases hz : x = 0
   ·have hz0 : (x == 0) = true := beq_iff_eq.2 hz
    have HN2 : Aside0 (Bn.normLen xs m = Bn.normLen xs xs.length) := ⟨by rw [HN1.out, if_pos hz]⟩
    clear hz
    go_wp2
    go_roundw
    case rel => exact ⟨m, by first | rfl | rw [hs1], ⟨by first | rfl | trivial⟩, HN2, by omega⟩
    case measure =>
     show bN _ < bN _
     simp only [bN]
     omega
   ·have hz0 : (x == 0) = false := beq_eq_false_iff_ne.2 hz
    have hn0 : Bn.normLen xs xs.length = m + 1 := by rw [HN1.out, if_neg hz]
    have hcb : (m : Int) + 1 ≤ (c : Int) := by have := HC.out; omega
    have hcb2 : m + 1 ≤ c := by have := HC.out; omega
    clear hz
    go_wp2
    go_ret
    refine ⟨?_, rfl⟩
    rw [hn0]
    rfl

theorem ex8 (l : List Int) (h8 : l.length = 8) : ∃ a b c d e f g h, l = [a, b, c, d, e, f, g, h] := by
 rcases l with _ | ⟨a, l⟩
 ·simp at h8
 rcases l with _ | ⟨b, l⟩
 ·simp at h8
 rcases l with _ | ⟨c, l⟩
 ·simp at h8
 rcases l with _ | ⟨d, l⟩
 ·simp at h8
 rcases l with _ | ⟨e, l⟩
 ·simp at h8
 rcases l with _ | ⟨f, l⟩
 ·simp at h8
 rcases l with _ | ⟨g, l⟩
 ·simp at h8
 rcases l with _ | ⟨h, l⟩
 ·simp at h8
 rcases l with _ | ⟨x, l⟩
 ·exact ⟨a, b, c, d, e, f, g, h, rfl⟩
 ·simp at h8
theorem bytes8 (l : List Int) (h8 : l.length = 8) (hb : ∀ x ∈ l, 0 ≤ x ∧ x ≤ 255) : bigall_bigEndianWord.f l = some (Bn.leV l.reverse) := by
  obtain ⟨a, b, c, d, e, f, g, h, rfl⟩ := ex8 l h8
  have nn : ∀ x ∈ [a, b, c, d, e, f, g, h], ∃ n : Nat, x = (n : Int) ∧ n < 256 := fun x hx => ⟨x.toNat, by have := hb x hx; omega, by have := hb x hx; omega⟩
  obtain ⟨a, rfl, ha⟩ := nn a (by simp)
  obtain ⟨b, rfl, hbb⟩ := nn b (by simp)
  obtain ⟨c, rfl, hc⟩ := nn c (by simp)
  obtain ⟨d, rfl, hd⟩ := nn d (by simp)
  obtain ⟨e, rfl, he⟩ := nn e (by simp)
  obtain ⟨f, rfl, hf⟩ := nn f (by simp)
  obtain ⟨g, rfl, hg⟩ := nn g (by simp)
  obtain ⟨h, rfl, hh⟩ := nn h (by simp)
  have key : ∀ (x0 x1 x2 x3 : Nat) (r : List Int), x0 < 256 → x1 < 256 → x2 < 256 → x3 < 256 → bigall_beUint32.f ((x0 : Int) :: (x1 : Int) :: (x2 : Int) :: (x3 : Int) :: r) = some ((x3 + x2 * 2 ^ 8 + x1 * 2 ^ 16 + x0 * 2 ^ 24 : Nat) : Int) := by
   intro x0 x1 x2 x3 r h0 h1 h2 h3
   unfold bigall_beUint32.f
   have r0 : rd ((x0 : Int) :: (x1 : Int) :: (x2 : Int) :: (x3 : Int) :: r) 0 = (x0 : Int) := rfl
   have r1 : rd ((x0 : Int) :: (x1 : Int) :: (x2 : Int) :: (x3 : Int) :: r) 1 = (x1 : Int) := rfl
   have r2 : rd ((x0 : Int) :: (x1 : Int) :: (x2 : Int) :: (x3 : Int) :: r) 2 = (x2 : Int) := rfl
   have r3 : rd ((x0 : Int) :: (x1 : Int) :: (x2 : Int) :: (x3 : Int) :: r) 3 = (x3 : Int) := rfl
   have e3 : (x3 : Int) % 4294967296 = ((x3 : Nat) : Int) := by omega
   have e2 : (((x2 : Int) % 4294967296) * 256) % 4294967296 = ((x2 * 2 ^ 8 : Nat) : Int) := by omega
   have e1 : (((x1 : Int) % 4294967296) * 65536) % 4294967296 = ((x1 * 2 ^ 16 : Nat) : Int) := by omega
   have e0 : (((x0 : Int) % 4294967296) * 16777216) % 4294967296 = ((x0 * 2 ^ 24 : Nat) : Int) := by omega
   rw [r0, r1, r2, r3, e3, e2, e1, e0]
   rw [Bn.or32 8 x3 x2 (by omega) (by omega) (by omega), Bn.or32 16 _ x1 (by omega) (by omega) (by omega), Bn.or32 24 _ x0 (by omega) (by omega) (by omega)]
   simp only [List.length_cons]
   rw [if_pos (by omega), if_pos (by omega), if_pos (by omega), if_pos (by omega)]
  unfold bigall_bigEndianWord.f bigall_beUint64.f
  rw [key a b c d _ ha hbb hc hd, Option.bind_some]
  have dr : List.drop 4 [(a : Int), (b : Int), (c : Int), (d : Int), (e : Int), (f : Int), (g : Int), (h : Int)] = [(e : Int), (f : Int), (g : Int), (h : Int)] := rfl
  rw [dr, key e f g h _ he hf hg hh, Option.bind_some]
  simp only [List.length_cons, List.length_nil]
  rw [if_pos (by omega), if_pos (by omega), Option.bind_some]
  congr 1
  have w1 : IntKind.u64.wrap (IntKind.u64.wrap ((d + c * 2 ^ 8 + b * 2 ^ 16 + a * 2 ^ 24 : Nat) : Int) * 4294967296) = (((d + c * 2 ^ 8 + b * 2 ^ 16 + a * 2 ^ 24) * 2 ^ 32 : Nat) : Int) := by
   rw [IntKind.wrap_u64, IntKind.wrap_u64]
   omega
  have w2 : IntKind.u64.wrap ((h + g * 2 ^ 8 + f * 2 ^ 16 + e * 2 ^ 24 : Nat) : Int) = ((h + g * 2 ^ 8 + f * 2 ^ 16 + e * 2 ^ 24 : Nat) : Int) := by
   rw [IntKind.wrap_u64]
   omega
  rw [w1, w2, Bn.or64' 32 _ _ (by omega) (by omega) (by omega)]
  simp only [List.reverse_cons, List.reverse_nil, List.nil_append, List.cons_append, Bn.leV]
  omega
theorem wd_slice (xs : List Int) (k m : Nat) (h : m + 8 + 8 * k = xs.length) : Bn.wd xs.reverse k = Bn.leV ((xs.take (m + 8)).drop m).reverse := by
 unfold Bn.wd
 congr 1
 rw [List.drop_reverse, List.take_reverse]
 have e1 : xs.length - 8 * k = m + 8 := by omega
 rw [e1]
 congr 1
 have e2 : (xs.take (m + 8)).length - 8 = m := by rw [List.length_take]; omega
 rw [e2]
theorem bgByte (A : Option Addr) (c : Nat) (xs : List Int) (w : World) (m k : Nat) (h : m + 8 + 8 * k = xs.length) (hr : Kd.C (Kd.int .u8) w A xs.length xs) (hc : xs.length ≤ c) (hb : ∀ x ∈ xs, 0 ≤ x ∧ x ≤ 255) (ad : Addr) (hA : A = some ad) :
  Calls Tryz.prog 75 #[.slice (some (ad.add m)) 8 (c - m)] w fun e w' => e = .returned (.int .u64 (Bn.wd xs.reverse k)) ∧ Drawn0 w w' := by
 have hl : ((xs.take (m + 8)).drop m).length = 8 := by rw [List.length_drop, List.length_take]; omega
 have h1 := Kd.C_mid (lo := m) (hi := m + 8) hr (by omega) (by omega) hc
 have hf := bytes8 ((xs.take (m + 8)).drop m) hl (fun x hx => hb x (List.mem_of_mem_take (List.mem_of_mem_drop hx)))
 rw [← wd_slice xs k m h] at hf
 have h2 := bigall_bigEndianWord.calls _ (c - m) _ _ w h1 (by rw [hl]; omega) hf
 have e3 : (some ad).map (·.add (m * (Kd.int .u8).sz)) = some (ad.add m) := by
  show some (ad.add (m * 1)) = some (ad.add m)
  rw [Nat.mul_one]
 rw [hl, if_neg (by omega), hA, e3] at h2
 exact h2
theorem bgEnd (w W : World) (g n cap : Nat) (rev : List Int) (hR : Kd.R (Kd.int .u64) Big.TW W w.heap.size (fun _ => True) (.slice (some ⟨g, 0, none⟩) n cap) (Bn.words rev n)) (hb : ∀ x ∈ rev, 0 ≤ x ∧ x ≤ 255) (hl : rev.length ≤ 8 * n) :
  Kd.R (Kd.int .u64) Big.TW W w.heap.size (fun _ => True) (.slice (some ⟨g, 0, none⟩) (Bn.normLen (Bn.words rev n) n) cap) ((Bn.words rev n).take (Bn.normLen (Bn.words rev n) n)) ∧ Big.okW ((Bn.words rev n).take (Bn.normLen (Bn.words rev n) n)) ∧ Big.natW ((Bn.words rev n).take (Bn.normLen (Bn.words rev n) n)) = Bn.leV rev := by
 have hlen : (Bn.words rev n).length = n := by simp [Bn.words]
 have hle := Bn.normLen_le (Bn.words rev n) n
 refine ⟨Kd.R_take hR (by omega), Bn.norm_ok _ ?_ n (by omega), ?_⟩
 ·intro x hx
  obtain ⟨j, _, rfl⟩ := List.mem_map.1 hx
  exact Bn.wd_range rev hb j
 ·rw [Bn.norm_val _ n (by omega), List.take_of_length_le (by omega), Bn.natW_words n rev hl]
set_option maxHeartbeats 4000000 in
theorem big_setBytes (A : Option Addr) (c : Nat) (xs : List Int) (w : World) (hr : Kd.C (Kd.int .u8) w A xs.length xs) (hc : xs.length ≤ c) (hb : ∀ x ∈ xs, 0 ≤ x ∧ x ≤ 255) (hl : xs.length ≤ 1000000) :
  Calls Tryz.prog 65 #[.slice none 0 0, .slice A xs.length c] w fun e w' => ∃ v ws, e = .returned v ∧ Kd.R (Kd.int .u64) Big.TW w' w.heap.size (fun _ => True) v ws ∧ Big.okW ws ∧ Big.natW ws = Bn.leV xs.reverse ∧ Below w.heap.size w w' := by
 have HR := Aside0.mk hr
 have HC := Aside0.mk hc
 have HX := Aside0.mk hb
 have hlm := Kd.C_max hr
 clear hr hc hb
 obtain ⟨n, hn⟩ : ∃ n, n = (xs.length + 7) / 8 := ⟨_, rfl⟩
 have hn8 : xs.length ≤ 8 * n := by omega
 have hn0 : 8 * n < xs.length + 8 := by omega
 clear hn
 have hnb : n ≤ 1000000000 := by omega
 have hq : ((xs.length : Int) + 8 - 1) / 8 = (n : Int) := by omega
 by_cases hL : xs.length = 0
 ·have hx : xs = [] := List.length_eq_zero_iff.1 hL
  subst hx
  obtain rfl : n = 0 := by simp at hn0; omega
  have hq0 : (([] : List Int).length : Int) + 8 - 1 = 7 := rfl
  go_enter Tryz.func65, Tryz.ntmps65
  go_wp2_with (go_at_call 74; refine (big_make 0 (by decide) _).mono ?_)
  rintro e W1 ⟨v, rfl, ho, hb1⟩
  obtain ⟨A', c', rfl, hc', hr'⟩ := Kd.R_reads ho
  have HO : Aside0 (Kd.R (Kd.int .u64) Big.TW W1 w.heap.size (fun _ => True) (.slice A' 0 c') []) := ⟨ho⟩
  have HB := Aside0.mk hb1
  have HN : Aside0 _ := Aside0.mk (big_norm A' c' [] W1 hr' (Nat.zero_le _))
  clear ho hb1 hc' hr'
  go_wp2
  go_loopw [5, 6] (fun v5 v6 wr => v5 = .int .i64 0 ∧ Aside0 (wr = W1)) (fun v5 v6 wr => bN v5)
  case atStart => exact ⟨rfl, ⟨rfl⟩⟩
  case round =>
   obtain ⟨rfl, ⟨rfl⟩⟩ := hrel
   go_wp2_with (go_at_call 76; refine HN.out.mono ?_; rintro e w' ⟨rfl, rfl⟩)
   go_ret
   exact ⟨_, [], rfl, HO.out, ⟨by simp, by simp⟩, rfl, HB.out⟩
 ·have hnp : 0 < n := by omega
  go_enter Tryz.func65, Tryz.ntmps65
  go_wp2_with (go_at_call 74; refine (big_make n hnb _).mono ?_)
  rintro e W1 ⟨v, rfl, ho, hb1⟩
  obtain ⟨g, cap, rfl, hg1, hg2, _⟩ := Kd.R_form ho (by rw [List.length_replicate]; exact hnp)
  rw [List.length_replicate] at ho
  rw [← Bn.rowK_zero xs.reverse n] at ho
  have HO := Aside0.mk ho
  have HB := Aside0.mk hb1
  clear ho hb1 hq
  rw [List.length_replicate]
  go_wp2
  obtain ⟨ad, hAd, _⟩ := Kd.at_int HR.out 0 (by omega) (by omega)
  subst hAd
  go_loopw [5, 6] (fun v5 v6 wr => ∃ i k : Nat, v5 = .int .i64 (i : Int) ∧ v6 = .int .i64 (k : Int) ∧ Aside0 (Below w.heap.size w wr) ∧ Aside0 (Kd.R (Kd.int .u64) Big.TW wr w.heap.size (fun _ => True) (.slice (some ⟨g, 0, none⟩) n cap) (Bn.rowK xs.reverse n k)) ∧ i + 8 * k = xs.length) (fun v5 v6 wr => bN v5)
  case atStart => exact ⟨xs.length, 0, rfl, rfl, HB, HO, by omega⟩
  case round =>
   clear HO HB
   obtain ⟨i, k, rfl, rfl, HB, HO, hk⟩ := hrel
   by_cases h8 : 8 ≤ i
   ·obtain ⟨m, rfl⟩ : ∃ m, i = m + 8 := ⟨i - 8, by omega⟩
    have hd : decide ((8 : Int) ≤ ((m + 8 : Nat) : Int)) = true := decide_eq_true (by omega)
    have hms : ((m + 8 : Nat) : Int) - 8 = (m : Int) := by omega
    have hmc : ((m + 8 : Nat) : Int) ≤ (c : Int) := by have := HC.out; omega
    have hmc2 : m + 8 ≤ c := by have := HC.out; omega
    have hm0 : (0 : Int) ≤ (m : Int) := by omega
    have hm1 : (m : Int) ≤ ((m + 8 : Nat) : Int) := by omega
    have hkn : k < n := by omega
    have HCALL := Aside0.mk (bgByte (some ad) c xs wr m k hk (Kd.C_below HR.out HB.out) HC.out HX.out ad rfl)
    go_wp2_with (go_at_call 75; refine HCALL.out.mono ?_)
    rintro e W2 ⟨rfl, ⟨q, rfl⟩⟩
    have HO2 := Kd.R_drewN HO.out q
    have HB2 : Aside0 (Below w.heap.size w (wr.drewN q)) := ⟨pw_below_drewN HB.out q⟩
    obtain ⟨hcell, hfrz⟩ := Kd.R_celln (0 : Int) HO2 (k : Int) (by omega) (by omega)
    have hput := Kd.R_putn HO2 (k : Int) (Bn.wd xs.reverse k)
    rw [Int.toNat_natCast] at hcell hfrz hput
    rw [Bn.rowK_set] at hput
    have HP := Aside0.mk hput
    have HB3 : Aside0 (Below w.heap.size w ((wr.drewN q).setCell ⟨g, k, none⟩ (.int .u64 (Bn.wd xs.reverse k)))) := ⟨HB2.out.setCell (p := ⟨g, k, none⟩) hg1 _⟩
    have hk0 : (0 : Int) ≤ (k : Int) := by omega
    have hk1 : (k : Int) < (n : Int) := by omega
    clear HO2 hput HCALL
    go_wp2
    go_roundw
    case rel => exact ⟨m, k + 1, rfl, by first | rfl | (congr 1), HB3, HP, by omega⟩
    case measure =>
     show bN _ < bN _
     simp only [bN]
     omega
   ·have hd : decide ((8 : Int) ≤ (i : Int)) = false := decide_eq_false (by omega)
    by_cases hi0 : i = 0
    ·subst hi0
     have hd0 : decide ((0 : Int) < ((0 : Nat) : Int)) = false := by decide
     have hnk : n = k := by omega
     subst hnk
     have HO2 := HO.out
     rw [Bn.rowK_full _ _ _ (Nat.le_refl _)] at HO2
     have HE := Aside0.mk (bgEnd w wr g n cap xs.reverse HO2 (fun x hx => HX.out x (List.mem_reverse.1 hx)) (by rw [List.length_reverse]; omega))
     obtain ⟨hn1, hn2, hn3⟩ := Kd.R_reads' HO2
     have hwl : (Bn.words xs.reverse n).length = n := hn1.symm
     have HN := Aside0.mk (big_norm (some ⟨g, 0, none⟩) cap (Bn.words xs.reverse n) wr hn3 (by omega))
     rw [hwl] at HN
     clear HO2 hn1 hn2 hn3 hwl
     go_wp2_with (go_at_call 76; refine HN.out.mono ?_; rintro e w' ⟨rfl, rfl⟩)
     go_ret
     exact ⟨_, _, rfl, HE.out.1, HE.out.2.1, HE.out.2.2, HB.out⟩
    ·have hd0 : decide ((0 : Int) < (i : Int)) = true := decide_eq_true (by omega)
     have hnk : n = k + 1 := by omega
     obtain ⟨rl, hrl⟩ : ∃ rl, rl = xs.reverse.drop (8 * k) := ⟨_, rfl⟩
     have HRL := Aside0.mk hrl
     have hrll : rl.length = i := by rw [hrl, List.length_drop, List.length_reverse]; omega
     clear hrl
     go_wp2
     go_loopw [5, 7, 8] (fun v5 v7 v8 wi => ∃ j t : Nat, v5 = .int .i64 (j : Int) ∧ v7 = .int .u64 (Bn.leV (rl.take t)) ∧ v8 = .int .u64 ((8 * t : Nat) : Int) ∧ Aside0 (wi = wr) ∧ j + t = i) (fun v5 v7 v8 wi => bN v5)
     case atStart => exact ⟨i, 0, rfl, rfl, rfl, ⟨rfl⟩, by omega⟩
     case round =>
      obtain ⟨j, t, rfl, rfl, rfl, ⟨rfl⟩, hjt⟩ := hrel
      by_cases hj0 : j = 0
      ·subst hj0
       have hdj : decide ((0 : Int) < ((0 : Nat) : Int)) = false := by decide
       obtain rfl : t = i := by omega
       have hwd : Bn.leV (rl.take t) = Bn.wd xs.reverse k := by
        rw [HRL.out]
        unfold Bn.wd
        have e1 : (xs.reverse.drop (8 * k)).length = t := by rw [← HRL.out]; exact hrll
        rw [List.take_of_length_le (by omega), List.take_of_length_le (by omega)]
       obtain ⟨hcell, hfrz⟩ := Kd.R_celln (0 : Int) HO.out (k : Int) (by omega) (by omega)
       have hput := Kd.R_putn HO.out (k : Int) (Bn.wd xs.reverse k)
       rw [Int.toNat_natCast] at hcell hfrz hput
       rw [Bn.rowK_set, Bn.rowK_full _ _ _ (by omega)] at hput
       have HE := Aside0.mk (bgEnd w _ g n cap xs.reverse hput (fun x hx => HX.out x (List.mem_reverse.1 hx)) (by rw [List.length_reverse]; omega))
       obtain ⟨hn1, hn2, hn3⟩ := Kd.R_reads' hput
       have hwl : (Bn.words xs.reverse n).length = n := hn1.symm
       have HN := Aside0.mk (big_norm (some ⟨g, 0, none⟩) cap (Bn.words xs.reverse n) _ hn3 (by omega))
       rw [hwl] at HN
       have HB3 : Aside0 (Below w.heap.size w (wr.setCell ⟨g, k, none⟩ (.int .u64 (Bn.wd xs.reverse k)))) := ⟨HB.out.setCell (p := ⟨g, k, none⟩) hg1 _⟩
       rw [hnk] at HN HE
       have hns : (n : Int) - 1 = (k : Int) := by omega
       have hk0 : (0 : Int) ≤ (k : Int) := by omega
       have hk1 : (k : Int) < (n : Int) := by omega
       clear hput hn1 hn2 hn3 hwl
       go_wp2_with (go_at_call 76; refine HN.out.mono ?_; rintro e w' ⟨rfl, rfl⟩)
       go_ret
       exact ⟨_, _, rfl, HE.out.1, HE.out.2.1, HE.out.2.2, HB3.out⟩
      ·obtain ⟨j, rfl⟩ : ∃ m, j = m + 1 := ⟨j - 1, by omega⟩
       have hdj : decide ((0 : Int) < ((j + 1 : Nat) : Int)) = true := decide_eq_true (by omega)
       have hj1 : ((j + 1 : Nat) : Int) - 1 = (j : Int) := by omega
       have hjx : (j : Int) < (xs.length : Int) := by omega
       have hjz : (0 : Int) ≤ (j : Int) := by omega
       obtain ⟨ad', had, hx⟩ := Kd.at_int (Kd.C_below HR.out HB.out) (j : Int) hjz hjx
       obtain rfl : ad = ad' := by simpa using had
       clear had
       rw [Int.toNat_natCast] at hx
       have HXV : Aside0 (∃ h : t < rl.length, rd xs (j : Int) = rl[t]) := by
        refine ⟨by omega, ?_⟩
        have e := HRL.out
        subst e
        rw [List.getElem_drop, List.getElem_reverse]
        have e2 : xs.length - 1 - (8 * k + t) = j := by omega
        simp only [e2]
        simp [rd, List.getD_eq_getElem?_getD, show j < xs.length by omega]
       have ht : t < 8 := by omega
       generalize rd xs (j : Int) = x at hx HXV
       have HST : Aside0 (bits .or .u64 (Bn.leV (rl.take t)) (IntKind.u64.wrap (IntKind.u64.wrap x * 2 ^ (8 * t))) = Bn.leV (rl.take (t + 1))) := ⟨by
        obtain ⟨h1, h2⟩ := HXV.out
        rw [h2]
        refine Bn.step_or rl (fun y hy => ?_) t h1 ht
        rw [HRL.out] at hy
        exact HX.out y (List.mem_reverse.1 (List.mem_of_mem_drop hy))⟩
       go_wp2
       go_roundw
       case rel => exact ⟨j, t + 1, rfl, congrArg (Value.int .u64) HST.out, by rw [show (8 * (t : Int) + 8) = ((8 * (t + 1) : Nat) : Int) by omega], ⟨by first | rfl | trivial⟩, by omega⟩
       case measure =>
        show bN _ < bN _
        simp only [bN]
        omega
theorem bg_infoI : (Tryz.prog.info? Big.TI).map (·.size) = some 2 := by kernel_rfl
set_option maxHeartbeats 4000000 in
theorem big_SetBytes (o : Nat) (A : Option Addr) (c : Nat) (xs : List Int) (w : World) (ho : w.heap[o]? = some (.cells #[.bool false, .slice none 0 0] Big.TI (0, 0))) (hr : Kd.C (Kd.int .u8) w A xs.length xs) (hc : xs.length ≤ c) (hb : ∀ x ∈ xs, 0 ≤ x ∧ x ≤ 255) (hl : xs.length ≤ 1000000) :
  Calls Tryz.prog 57 #[.pointer (some ⟨o, 0, none⟩), .slice A xs.length c] w fun e w' => e = .returned (.pointer (some ⟨o, 0, none⟩)) ∧ ∃ u ws, w'.heap[o]? = some (.cells #[.bool false, u] Big.TI (0, 0)) ∧ Kd.R (Kd.int .u64) Big.TW w' w.heap.size (fun _ => True) u ws ∧ Big.okW ws ∧ Big.natW ws = Bn.leV xs.reverse ∧ Below o w w' := by
 have hlt : o < w.heap.size := (Array.getElem?_eq_some_iff.1 ho).1
 have c1 := (blk_cell ho 1).trans rfl
 have HS := Aside0.mk (big_setBytes A c xs w hr hc hb hl)
 have HO := Aside0.mk ho
 clear hr hc hb ho
 go_enter Tryz.func57, Tryz.ntmps57
 go_wp2_with (go_at_call 65; refine HS.out.mono ?_)
 rintro e W1 ⟨v, ws, rfl, hR, hok, hval, hB⟩
 obtain ⟨A', c', hv⟩ := Kd.R_slice hR
 subst hv
 have h1 : W1.heap[o]? = some (.cells #[.bool false, .slice none 0 0] Big.TI (0, 0)) := (hB.block o hlt).trans HO.out
 have d1 := (blk_cell h1 1).trans rfl
 have f1 := blk_frozen h1 1
 have h2 := blk_put (cs' := #[.bool false, .slice A' ws.length c']) h1 1 (.slice A' ws.length c') rfl
 have d0 := (blk_cell h2 0).trans rfl
 have f0 := blk_frozen h2 0
 have h3 := blk_put (cs' := #[.bool false, .slice A' ws.length c']) h2 0 (.bool false) rfl
 have HR2 := Kd.R_set hR h1 (by decide) 1 (.slice A' ws.length c')
 have HR3 := Aside0.mk (Kd.R_set HR2 h2 (by decide) 0 (.bool false))
 have H3 := Aside0.mk h3
 have HB3 := Aside0.mk (((hB.mono (Nat.le_of_lt hlt)).setCell (p := ⟨o, 1, none⟩) (Nat.le_refl o) (.slice A' ws.length c')).setCell (p := ⟨o, 0, none⟩) (Nat.le_refl o) (.bool false))
 clear hR hB h1 h2 h3 HR2 HS
 go_wp2
 go_ret
 exact ⟨rfl, _, _, H3.out, HR3.out, hok, hval, HB3.out⟩
set_option maxHeartbeats 4000000 in
theorem big_SetSelf (o : Nat) (w : World) :
  Calls Tryz.prog 66 #[.pointer (some ⟨o, 0, none⟩), .pointer (some ⟨o, 0, none⟩)] w fun e w' => e = .returned (.pointer (some ⟨o, 0, none⟩)) ∧ w' = w := by
 obtain ⟨j, hj, hjs⟩ := Option.map_eq_some_iff.1 bg_infoI
 have hpe := Lib.run_neq_ptr_same (P := Tryz.prog) w ⟨o, 0, none⟩ Tryz.underlying44 hj
 clear hj hjs
 go_enter Tryz.func66, Tryz.ntmps66
 go_wp2
 go_ret
 exact ⟨rfl, rfl⟩
set_option maxHeartbeats 4000000 in
/-- x.Neg(x), of a number that is not 0 or is. -/
theorem big_NegSelf (o : Nat) (A : Option Addr) (c n : Nat) (w : World) (ho : w.heap[o]? = some (.cells #[.bool false, .slice A n c] Big.TI (0, 0))) :
  Calls Tryz.prog 58 #[.pointer (some ⟨o, 0, none⟩), .pointer (some ⟨o, 0, none⟩)] w fun e w' => e = .returned (.pointer (some ⟨o, 0, none⟩)) ∧ w' = w.setCell ⟨o, 0, none⟩ (.bool (decide (0 < n))) := by
 have d0 := (blk_cell ho 0).trans rfl
 have d1 := (blk_cell ho 1).trans rfl
 have f0 := blk_frozen ho 0
 clear ho
 by_cases hn : n = 0
 ·subst hn
  have hd : decide ((0 : Int) < ((0 : Nat) : Int)) = false := by decide
  go_enter Tryz.func58, Tryz.ntmps58
  go_wp2_with (go_at_call 66; refine (big_SetSelf o _).mono ?_; rintro e w' ⟨rfl, rfl⟩)
  go_ret
  exact ⟨rfl, rfl⟩
 ·have hd : decide ((0 : Int) < (n : Int)) = true := decide_eq_true (by omega)
  have hd2 : decide (0 < n) = true := decide_eq_true (by omega)
  rw [hd2]
  go_enter Tryz.func58, Tryz.ntmps58
  go_wp2_with (go_at_call 66; refine (big_SetSelf o _).mono ?_; rintro e w' ⟨rfl, rfl⟩)
  go_ret
  exact ⟨rfl, rfl⟩

theorem bytesOf_range (s : ByteArray) : ∀ x ∈ bytesOf s, 0 ≤ x ∧ x ≤ 255 := by
 intro x hx
 obtain ⟨c, _, rfl⟩ := List.mem_map.1 hx
 have := c.toNat_lt
 omega
/-- A number's value, out of what the plain data say. -/
def zval (neg : Bool) (mag : ByteArray) : Int := if neg then -Bn.leV (bytesOf mag).reverse else Bn.leV (bytesOf mag).reverse
theorem natW_nil_zero {ws : List Int} (h : ws.length = 0) : Big.natW ws = 0 := by
 rw [List.length_eq_zero_iff.1 h]
 rfl
set_option maxRecDepth 100000 in
set_option maxHeartbeats 400000 in
theorem big_zzBig (neg : Bool) (mag : ByteArray) (w : World) (hl : mag.size ≤ 1000000) :
  Calls Tryz.prog 46 #[.agg #[.bool neg, .string mag]] w fun e w' => ∃ v, e = .returned v ∧ Big.Own w' w.heap.size (fun _ => True) (zval neg mag) v ∧ Below w.heap.size w w' := by
 have kb := fun W => print_bytes (P := Tryz.prog) 9 81 5 Tryz.underlying9 Tryz.underlying81 Tryz.underlying5 mag W
 obtain ⟨WA, hWA⟩ : ∃ WA : World, WA = (w.alloc (.cells #[.bool neg, .string mag] 60)).alloc (.cells #[.bool false, .slice none 0 0] Big.TI) := ⟨_, rfl⟩
 have hs : WA.heap.size = w.heap.size + 2 := by rw [hWA]; simp
 have hs1 : (w.alloc (.cells #[.bool neg, .string mag] 60)).heap.size = w.heap.size + 1 := by simp
 have h0 : WA.heap[w.heap.size]? = some (.cells #[.bool neg, .string mag] 60 (0, 0)) := by rw [hWA]; exact blk_alloc (blk_new w _) _
 have h1 : WA.heap[w.heap.size + 1]? = some (.cells #[.bool false, .slice none 0 0] Big.TI (0, 0)) := by
  have := blk_new (w.alloc (.cells #[.bool neg, .string mag] 60)) (.cells #[.bool false, .slice none 0 0] Big.TI)
  rw [hs1] at this
  rw [hWA]
  exact this
 have hBA : Below w.heap.size w WA := by rw [hWA]; exact ((Below.refl _ w).alloc (Nat.le_refl _) _).alloc (by rw [hs1]; omega) _
 obtain ⟨WB, hWB⟩ : ∃ WB, WB = Lib.bytesWorld WA 5 mag := ⟨_, rfl⟩
 have hBB : Below WA.heap.size WA WB := by rw [hWB]; exact bytes_below (Below.refl _ _) (Nat.le_refl _) 5 mag
 have g0 := (hBB.block w.heap.size (by omega)).trans h0
 have g1 := (hBB.block (w.heap.size + 1) (by omega)).trans h1
 have hrd : Kd.C (Kd.int .u8) WB (some ⟨WA.heap.size, 0, none⟩) (bytesOf mag).length (bytesOf mag) := by
  have := bytes_reads WA 5 mag (by omega)
  rw [hWB, bytesOf_length]
  exact Kd.C_of_reads (enc := Value.int .u8) (d := (0 : Int)) (h1 := fun _ => rfl) this
 have HS := Aside0.mk (big_SetBytes (w.heap.size + 1) (some ⟨WA.heap.size, 0, none⟩) (grownCap WA mag.size 0 5) (bytesOf mag) WB g1 hrd (by rw [bytesOf_length]; exact grownCap_ge _ _ _ _) (bytesOf_range mag) (by rw [bytesOf_length]; exact hl))
 rw [bytesOf_length] at HS
 have G0 := Aside0.mk g0
 have HBW : Aside0 (Below w.heap.size w WB) := ⟨hBA.trans (hBB.mono (by omega))⟩
 have HSZ : Aside0 (w.heap.size ≤ WB.heap.size) := ⟨HBW.out.size⟩
 have HWA := Aside0.mk hWA
 have HWB := Aside0.mk hWB
 have hlt0 : w.heap.size < WB.heap.size := by have := hBB.size; omega
 clear hWA hWB h0 h1 g0 g1 hrd hBB hBA hs1 hs
 have kb2 : Aside0 _ := ⟨kb WA⟩
 clear kb
 go_enter Tryz.func46, Tryz.ntmps46
 go_wp2
 rw [← HWA.out, kb2.out]
 simp only [Result.andThen]
 rw [Oper.upon_value, ← HWB.out]
 go_wp2_with (go_at_call 57; refine HS.out.mono ?_)
 rintro e W1 ⟨rfl, u, ws, k1, k2, k3, k4, k5⟩
 obtain ⟨A', c', rfl⟩ := Kd.R_slice k2
 have q0 := (k5.block w.heap.size (by omega)).trans G0.out
 have d0 := (blk_cell q0 0).trans rfl
 have hRL := Kd.R_lower k2 HSZ.out
 have HB1 : Aside0 (Below w.heap.size w W1) := ⟨HBW.out.trans (k5.mono (by omega))⟩
 cases neg with
 | false =>
  have HF : Aside0 (Big.Own W1 w.heap.size (fun _ => True) (zval false mag) (.pointer (some ⟨w.heap.size + 1, 0, none⟩))) := ⟨⟨w.heap.size + 1, _, false, ws, rfl, trivial, by omega, k1, hRL, k3, by simp, by rw [Big.valW, zval, k4]⟩⟩
  clear k1 k2 k3 k4 k5 q0 hRL HS G0
  go_wp2
  go_ret
  exact ⟨_, rfl, HF.out, HB1.out⟩
 | true =>
  have HN := Aside0.mk (big_NegSelf (w.heap.size + 1) A' c' ws.length W1 k1)
  have m1 := blk_put (cs' := #[.bool (decide (0 < ws.length)), .slice A' ws.length c']) k1 0 (.bool (decide (0 < ws.length))) rfl
  have m2 := Kd.R_set hRL k1 (by decide) 0 (.bool (decide (0 < ws.length)))
  have HF : Aside0 (Big.Own (W1.setCell ⟨w.heap.size + 1, 0, none⟩ (.bool (decide (0 < ws.length)))) w.heap.size (fun _ => True) (zval true mag) (.pointer (some ⟨w.heap.size + 1, 0, none⟩))) := ⟨⟨w.heap.size + 1, _, _, ws, rfl, trivial, by omega, m1, m2, k3, fun h => by
    have := of_decide_eq_true h
    intro hn
    subst hn
    simp at this, by
    rw [Big.valW, zval, ← k4]
    by_cases hz : ws.length = 0
    ·rw [natW_nil_zero hz]
     simp
    ·rw [decide_eq_true (show 0 < ws.length by omega)]⟩⟩
  have HB2 : Aside0 (Below w.heap.size w (W1.setCell ⟨w.heap.size + 1, 0, none⟩ (.bool (decide (0 < ws.length))))) := ⟨HB1.out.setCell (p := ⟨w.heap.size + 1, 0, none⟩) (by show w.heap.size ≤ w.heap.size + 1; omega) _⟩
  clear k1 k2 k3 k4 k5 q0 hRL HS G0 m1 m2
  go_wp2_with (go_at_call 58; refine HN.out.mono ?_; rintro e w' ⟨rfl, rfl⟩)
  go_ret
  exact ⟨_, rfl, HF.out, HB2.out⟩

end Go.Proofs.YtipfmkfpaglkkaaGreatDoor.Z
