-- Written by a program of this session (myprint.py).
import Derived.Test.YtcagdmeiigjkcaaZ0
import Derived.Test.YtcagdmeiigjkcaaZ3
import Derived.Test.YtcagdmeiigjkcaaBg
import Derived.Test.YtcagdmeiigjkcaaBn
import Derived.Test.YtcagdmeiigjkcaaBy
import Derived.Laws.MakeOwn
import Derived.Lib.Builder
import Derived.LaidEqlPtr
import Derived.Test.YtcagdmeiigjkcaaEv
import Derived.Test.YtcagdmeiigjkcaaGe
namespace Go.Proofs.Ytcagdmeiigjkcaa.Z
open Go.RowKit Go.Proofs.YtcagdmeiigjkcaaW.PrintWords Go.Proofs.YtcagdmeiigjkcaaW.PrintLast Go.Proofs.YtcagdmeiigjkcaaW.PrintMore
attribute [local go_sem high] Go.Proofs.Ytcagdmeiigjkcaa.Ge.gtr_str
attribute [local go_sem] max2_int min2_int max_two min_two max_three min_three max_four min_four   -- for this text's walks alone
set_option linter.unusedVariables false
set_option linter.unusedSimpArgs false

-- PLUGGED semantic_zzBig: function 68 (a text of this session)
theorem bg_infoW : (Try.prog.info? Big.TW).map (fun i => (i.zero, i.size, i.bytes)) = some (some (.int .u64 0), 1, 8) := by kernel_rfl
theorem bg_madeR (base : Nat) (n c : Nat) (hnc : n ≤ c) (hc : c ≤ 9223372036854775807) (w : World) (hb : base ≤ w.heap.size) : Kd.R (Kd.int .u64) Big.TW (w.alloc (.cells (madeCells #[Value.int .u64 0] c) Big.TW)) base (fun _ => True) (.slice (some ⟨w.heap.size, 0, none⟩) n c) (List.replicate n 0) := by
  have hrep : Reps ((Kd.int .u64).M (w.alloc (.cells (madeCells #[Value.int .u64 0] c) Big.TW)) base (fun k => True ∧ some k ≠ (Value.slice (some ⟨w.heap.size, 0, none⟩) c c).ownBlock)) 1 (List.replicate c (0 : Int)) (madeCells (Value.int .u64 0).cells (c * 1)).toList :=
    Kd.reps_made (z := .int .u64 0) (size := 1) (z0 := (0 : Int)) rfl (by decide) (by first | rfl | exact ⟨rfl, trivial⟩ | simp [Kd.int, Kd.scalar]) c
  have h2 := World.ownsRow_lit (base := base) (e := Big.TW) (size := 1) w (madeCells #[Value.int .u64 0] c) c hb (by simpa [maxLen] using hc) (by simp [size_madeCells])
  have full : Kd.R (Kd.int .u64) Big.TW (w.alloc (.cells (madeCells #[Value.int .u64 0] c) Big.TW)) base (fun _ => True) (.slice (some ⟨w.heap.size, 0, none⟩) c c) (List.replicate c 0) := by
    refine ⟨fun _ _ => trivial, (madeCells #[Value.int .u64 0] c).toList, ?_, ?_⟩
    · rw [List.length_replicate]
      exact h2
    · have e : madeCells (Value.int .u64 0).cells (c * 1) = madeCells #[Value.int .u64 0] c := by rw [Nat.mul_one]; rfl
      rw [e] at hrep
      exact hrep
  have := Kd.R_take (m := n) full (by simpa using hnc)
  rwa [List.take_replicate, Nat.min_eq_left hnc] at this
set_option maxHeartbeats 2000000 in
theorem big_make (n : Nat) (hn : n ≤ 1000000000) (w : World) : Calls Try.prog 93 #[.slice none 0 0, .int .i64 (n : Int)] w fun e w' => ∃ v, e = .returned v ∧ Kd.R (Kd.int .u64) Big.TW w' w.heap.size (fun _ => True) v (List.replicate n 0) ∧ Below w.heap.size w w' := by
  obtain ⟨i0, hi, hz0, hz1, hz2⟩ := info_parts bg_infoW
  by_cases h0 : n = 0
  · subst h0
    have hd : decide (((0 : Nat) : Int) ≤ 0) = true := by decide
    go_enter Try.func93, Try.ntmps93
    go_wp2
    go_ret
    exact ⟨_, rfl, Kd.R_nil _ _ _ _ _, Below.refl _ _⟩
  · have hd : decide ((n : Int) ≤ 0) = false := decide_eq_false (by omega)
    by_cases h1 : n = 1
    · subst h1
      have hm := run_make (P := Try.prog) w 126 Big.TW i0 (.int .u64 0) Try.underlying126 hi hz0 .i64 .i64 1 1 (by omega) (by omega) (by rw [hz2]; omega) (by omega)
      rw [hz1] at hm
      have HM := Aside0.mk (bg_madeR w.heap.size 1 1 (by omega) (by omega) w (Nat.le_refl _))
      go_enter Try.func93, Try.ntmps93
      go_wp2
      go_ret
      exact ⟨_, rfl, HM.out, (Below.refl _ _).alloc (Nat.le_refl _) _⟩
    · have he : ((n : Int) == 1) = false := beq_eq_false_iff_ne.2 (by omega)
      have hm := run_make (P := Try.prog) w 126 Big.TW i0 (.int .u64 0) Try.underlying126 hi hz0 .i64 .i64 (n : Int) ((n : Int) + 4) (by omega) (by omega) (by rw [hz2]; omega) (by omega)
      rw [hz1] at hm
      have HM := Aside0.mk (bg_madeR w.heap.size n (n + 4) (by omega) (by omega) w (Nat.le_refl _))
      have e4 : ((n : Int) + 4).toNat = n + 4 := by omega
      rw [e4, Int.toNat_natCast] at hm
      go_enter Try.func93, Try.ntmps93
      go_wp2
      go_ret
      exact ⟨_, rfl, HM.out, (Below.refl _ _).alloc (Nat.le_refl _) _⟩
def bN : Value → Nat
  | .int _ n => n.toNat
  | _ => 0
set_option maxHeartbeats 2000000 in
theorem big_norm (A : Option Addr) (c : Nat) (xs : List Int) (w : World) (hr : Kd.C (Kd.int .u64) w A xs.length xs) (hc : xs.length ≤ c) : Calls Try.prog 95 #[.slice A xs.length c] w fun e w' => e = .returned (.slice A (Bn.normLen xs xs.length) c) ∧ w' = w := by
  have HR := Aside0.mk hr
  have HC := Aside0.mk hc
  have hlm := Kd.C_max hr
  clear hr hc
  go_enter Try.func95, Try.ntmps95
  go_wp2
  go_loopw [3] (fun v3 wr => ∃ i : Nat, v3 = .int .i64 (i : Int) ∧ Aside0 (wr = w) ∧ Aside0 (Bn.normLen xs i = Bn.normLen xs xs.length) ∧ i ≤ xs.length) (fun v3 wr => bN v3)
  case atStart => exact ⟨xs.length, rfl, ⟨rfl⟩, ⟨rfl⟩, Nat.le_refl _⟩
  case round =>
    obtain ⟨i, rfl, ⟨rfl⟩, HN, hi⟩ := hrel
    by_cases h0 : i = 0
    · subst h0
      have hn0 : Bn.normLen xs xs.length = 0 := HN.out.symm
      have hg : decide ((0 : Int) < ((0 : Nat) : Int)) = false := by decide
      go_wp2
      go_ret
      refine ⟨?_, rfl⟩
      rw [hn0]
      rfl
    · obtain ⟨m, rfl⟩ : ∃ m, i = m + 1 := ⟨i - 1, by omega⟩
      have hg : decide ((0 : Int) < ((m + 1 : Nat) : Int)) = true := decide_eq_true (by omega)
      have hm0 : (0 : Int) ≤ (m : Int) := by omega
      have hm1 : (m : Int) < (xs.length : Int) := by omega
      obtain ⟨ad, rfl, hx⟩ := Kd.at_int HR.out (m : Int) hm0 hm1
      rw [Int.toNat_natCast] at hx
      have hrd : rd xs (m : Int) = xs.getD m 0 := by simp [rd]
      have hs1 : ((m + 1 : Nat) : Int) - 1 = (m : Int) := by omega
      have HN1 : Aside0 (Bn.normLen xs xs.length = if rd xs (m : Int) = 0 then Bn.normLen xs m else m + 1) := ⟨by rw [← HN.out, Bn.normLen, hrd]⟩
      clear hrd
      generalize rd xs (m : Int) = x at hx HN1
      by_cases hz : x = 0
      · have hz0 : (x == 0) = true := beq_iff_eq.2 hz
        have HN2 : Aside0 (Bn.normLen xs m = Bn.normLen xs xs.length) := ⟨by rw [HN1.out, if_pos hz]⟩
        clear hz
        go_wp2
        go_roundw
        case rel => exact ⟨m, by first | rfl | rw [hs1], ⟨by first | rfl | trivial⟩, HN2, by omega⟩
        case measure =>
          show bN _ < bN _
          simp only [bN]
          omega
      · have hz0 : (x == 0) = false := beq_eq_false_iff_ne.2 hz
        have hn0 : Bn.normLen xs xs.length = m + 1 := by rw [HN1.out, if_neg hz]
        have hcb : (m : Int) + 1 ≤ (c : Int) := by have := HC.out; omega
        have hcb2 : m + 1 ≤ c := by have := HC.out; omega
        clear hz
        go_wp2
        go_ret
        refine ⟨?_, rfl⟩
        rw [hn0]
        rfl

theorem ex8 (l : List Int) (h8 : l.length = 8) : ∃ a b c d e f g h, l = [a, b, c, d, e, f, g, h] := by
  rcases l with _ | ⟨a, l⟩
  · simp at h8
  rcases l with _ | ⟨b, l⟩
  · simp at h8
  rcases l with _ | ⟨c, l⟩
  · simp at h8
  rcases l with _ | ⟨d, l⟩
  · simp at h8
  rcases l with _ | ⟨e, l⟩
  · simp at h8
  rcases l with _ | ⟨f, l⟩
  · simp at h8
  rcases l with _ | ⟨g, l⟩
  · simp at h8
  rcases l with _ | ⟨h, l⟩
  · simp at h8
  rcases l with _ | ⟨x, l⟩
  · exact ⟨a, b, c, d, e, f, g, h, rfl⟩
  · simp at h8
theorem bytes8 (l : List Int) (h8 : l.length = 8) (hb : ∀ x ∈ l, 0 ≤ x ∧ x ≤ 255) : bigall_bigEndianWord.f l = some (Bn.leV l.reverse) := by
    obtain ⟨a, b, c, d, e, f, g, h, rfl⟩ := ex8 l h8
    have nn : ∀ x ∈ [a, b, c, d, e, f, g, h], ∃ n : Nat, x = (n : Int) ∧ n < 256 := fun x hx => ⟨x.toNat, by have := hb x hx; omega, by have := hb x hx; omega⟩
    obtain ⟨a, rfl, ha⟩ := nn a (by simp)
    obtain ⟨b, rfl, hbb⟩ := nn b (by simp)
    obtain ⟨c, rfl, hc⟩ := nn c (by simp)
    obtain ⟨d, rfl, hd⟩ := nn d (by simp)
    obtain ⟨e, rfl, he⟩ := nn e (by simp)
    obtain ⟨f, rfl, hf⟩ := nn f (by simp)
    obtain ⟨g, rfl, hg⟩ := nn g (by simp)
    obtain ⟨h, rfl, hh⟩ := nn h (by simp)
    have key : ∀ (x0 x1 x2 x3 : Nat) (r : List Int), x0 < 256 → x1 < 256 → x2 < 256 → x3 < 256 → bigall_beUint32.f ((x0 : Int) :: (x1 : Int) :: (x2 : Int) :: (x3 : Int) :: r) = some ((x3 + x2 * 2 ^ 8 + x1 * 2 ^ 16 + x0 * 2 ^ 24 : Nat) : Int) := by
      intro x0 x1 x2 x3 r h0 h1 h2 h3
      unfold bigall_beUint32.f
      have r0 : rd ((x0 : Int) :: (x1 : Int) :: (x2 : Int) :: (x3 : Int) :: r) 0 = (x0 : Int) := rfl
      have r1 : rd ((x0 : Int) :: (x1 : Int) :: (x2 : Int) :: (x3 : Int) :: r) 1 = (x1 : Int) := rfl
      have r2 : rd ((x0 : Int) :: (x1 : Int) :: (x2 : Int) :: (x3 : Int) :: r) 2 = (x2 : Int) := rfl
      have r3 : rd ((x0 : Int) :: (x1 : Int) :: (x2 : Int) :: (x3 : Int) :: r) 3 = (x3 : Int) := rfl
      have e3 : (x3 : Int) % 4294967296 = ((x3 : Nat) : Int) := by omega
      have e2 : (((x2 : Int) % 4294967296) * 256) % 4294967296 = ((x2 * 2 ^ 8 : Nat) : Int) := by omega
      have e1 : (((x1 : Int) % 4294967296) * 65536) % 4294967296 = ((x1 * 2 ^ 16 : Nat) : Int) := by omega
      have e0 : (((x0 : Int) % 4294967296) * 16777216) % 4294967296 = ((x0 * 2 ^ 24 : Nat) : Int) := by omega
      rw [r0, r1, r2, r3, e3, e2, e1, e0]
      rw [Bn.or32 8 x3 x2 (by omega) (by omega) (by omega), Bn.or32 16 _ x1 (by omega) (by omega) (by omega), Bn.or32 24 _ x0 (by omega) (by omega) (by omega)]
      simp only [List.length_cons]
      rw [if_pos (by omega), if_pos (by omega), if_pos (by omega), if_pos (by omega)]
    unfold bigall_bigEndianWord.f bigall_beUint64.f
    rw [key a b c d _ ha hbb hc hd, Option.bind_some]
    have dr : List.drop 4 [(a : Int), (b : Int), (c : Int), (d : Int), (e : Int), (f : Int), (g : Int), (h : Int)] = [(e : Int), (f : Int), (g : Int), (h : Int)] := rfl
    rw [dr, key e f g h _ he hf hg hh, Option.bind_some]
    simp only [List.length_cons, List.length_nil]
    rw [if_pos (by omega), if_pos (by omega), Option.bind_some]
    congr 1
    have w1 : IntKind.u64.wrap (IntKind.u64.wrap ((d + c * 2 ^ 8 + b * 2 ^ 16 + a * 2 ^ 24 : Nat) : Int) * 4294967296) = (((d + c * 2 ^ 8 + b * 2 ^ 16 + a * 2 ^ 24) * 2 ^ 32 : Nat) : Int) := by
      rw [IntKind.wrap_u64, IntKind.wrap_u64]
      omega
    have w2 : IntKind.u64.wrap ((h + g * 2 ^ 8 + f * 2 ^ 16 + e * 2 ^ 24 : Nat) : Int) = ((h + g * 2 ^ 8 + f * 2 ^ 16 + e * 2 ^ 24 : Nat) : Int) := by
      rw [IntKind.wrap_u64]
      omega
    rw [w1, w2, Bn.or64' 32 _ _ (by omega) (by omega) (by omega)]
    simp only [List.reverse_cons, List.reverse_nil, List.nil_append, List.cons_append, Bn.leV]
    omega
theorem wd_slice (xs : List Int) (k m : Nat) (h : m + 8 + 8 * k = xs.length) : Bn.wd xs.reverse k = Bn.leV ((xs.take (m + 8)).drop m).reverse := by
  unfold Bn.wd
  congr 1
  rw [List.drop_reverse, List.take_reverse]
  have e1 : xs.length - 8 * k = m + 8 := by omega
  rw [e1]
  congr 1
  have e2 : (xs.take (m + 8)).length - 8 = m := by rw [List.length_take]; omega
  rw [e2]
theorem bgByte (A : Option Addr) (c : Nat) (xs : List Int) (w : World) (m k : Nat) (h : m + 8 + 8 * k = xs.length) (hr : Kd.C (Kd.int .u8) w A xs.length xs) (hc : xs.length ≤ c) (hb : ∀ x ∈ xs, 0 ≤ x ∧ x ≤ 255) (ad : Addr) (hA : A = some ad) :
    Calls Try.prog 94 #[.slice (some (ad.add m)) 8 (c - m)] w fun e w' => e = .returned (.int .u64 (Bn.wd xs.reverse k)) ∧ Drawn0 w w' := by
  have hl : ((xs.take (m + 8)).drop m).length = 8 := by rw [List.length_drop, List.length_take]; omega
  have h1 := Kd.C_mid (lo := m) (hi := m + 8) hr (by omega) (by omega) hc
  have hf := bytes8 ((xs.take (m + 8)).drop m) hl (fun x hx => hb x (List.mem_of_mem_take (List.mem_of_mem_drop hx)))
  rw [← wd_slice xs k m h] at hf
  have h2 := bigall_bigEndianWord.calls _ (c - m) _ _ w h1 (by rw [hl]; omega) hf
  have e3 : (some ad).map (·.add (m * (Kd.int .u8).sz)) = some (ad.add m) := by
    show some (ad.add (m * 1)) = some (ad.add m)
    rw [Nat.mul_one]
  rw [hl, if_neg (by omega), hA, e3] at h2
  exact h2
theorem bgEnd (w W : World) (g n cap : Nat) (rev : List Int) (hR : Kd.R (Kd.int .u64) Big.TW W w.heap.size (fun _ => True) (.slice (some ⟨g, 0, none⟩) n cap) (Bn.words rev n)) (hb : ∀ x ∈ rev, 0 ≤ x ∧ x ≤ 255) (hl : rev.length ≤ 8 * n) :
    Kd.R (Kd.int .u64) Big.TW W w.heap.size (fun _ => True) (.slice (some ⟨g, 0, none⟩) (Bn.normLen (Bn.words rev n) n) cap) ((Bn.words rev n).take (Bn.normLen (Bn.words rev n) n)) ∧ Big.okW ((Bn.words rev n).take (Bn.normLen (Bn.words rev n) n)) ∧ Big.natW ((Bn.words rev n).take (Bn.normLen (Bn.words rev n) n)) = Bn.leV rev := by
  have hlen : (Bn.words rev n).length = n := by simp [Bn.words]
  have hle := Bn.normLen_le (Bn.words rev n) n
  refine ⟨Kd.R_take hR (by omega), Bn.norm_ok _ ?_ n (by omega), ?_⟩
  · intro x hx
    obtain ⟨j, _, rfl⟩ := List.mem_map.1 hx
    exact Bn.wd_range rev hb j
  · rw [Bn.norm_val _ n (by omega), List.take_of_length_le (by omega), Bn.natW_words n rev hl]
set_option maxHeartbeats 4000000 in
theorem big_setBytes (A : Option Addr) (c : Nat) (xs : List Int) (w : World) (hr : Kd.C (Kd.int .u8) w A xs.length xs) (hc : xs.length ≤ c) (hb : ∀ x ∈ xs, 0 ≤ x ∧ x ≤ 255) (hl : xs.length ≤ 1000000) :
    Calls Try.prog 90 #[.slice none 0 0, .slice A xs.length c] w fun e w' => ∃ v ws, e = .returned v ∧ Kd.R (Kd.int .u64) Big.TW w' w.heap.size (fun _ => True) v ws ∧ Big.okW ws ∧ Big.natW ws = Bn.leV xs.reverse ∧ Below w.heap.size w w' := by
  have HR := Aside0.mk hr
  have HC := Aside0.mk hc
  have HX := Aside0.mk hb
  have hlm := Kd.C_max hr
  clear hr hc hb
  obtain ⟨n, hn⟩ : ∃ n, n = (xs.length + 7) / 8 := ⟨_, rfl⟩
  have hn8 : xs.length ≤ 8 * n := by omega
  have hn0 : 8 * n < xs.length + 8 := by omega
  clear hn
  have hnb : n ≤ 1000000000 := by omega
  have hq : ((xs.length : Int) + 8 - 1) / 8 = (n : Int) := by omega
  by_cases hL : xs.length = 0
  · have hx : xs = [] := List.length_eq_zero_iff.1 hL
    subst hx
    obtain rfl : n = 0 := by simp at hn0; omega
    have hq0 : (([] : List Int).length : Int) + 8 - 1 = 7 := rfl
    go_enter Try.func90, Try.ntmps90
    go_wp2_with (go_at_call 93; refine (big_make 0 (by decide) _).mono ?_)
    rintro e W1 ⟨v, rfl, ho, hb1⟩
    obtain ⟨A', c', rfl, hc', hr'⟩ := Kd.R_reads ho
    have HO : Aside0 (Kd.R (Kd.int .u64) Big.TW W1 w.heap.size (fun _ => True) (.slice A' 0 c') []) := ⟨ho⟩
    have HB := Aside0.mk hb1
    have HN : Aside0 _ := Aside0.mk (big_norm A' c' [] W1 hr' (Nat.zero_le _))
    clear ho hb1 hc' hr'
    go_wp2
    go_loopw [5, 6] (fun v5 v6 wr => v5 = .int .i64 0 ∧ Aside0 (wr = W1)) (fun v5 v6 wr => bN v5)
    case atStart => exact ⟨rfl, ⟨rfl⟩⟩
    case round =>
      obtain ⟨rfl, ⟨rfl⟩⟩ := hrel
      go_wp2_with (go_at_call 95; refine HN.out.mono ?_; rintro e w' ⟨rfl, rfl⟩)
      go_ret
      exact ⟨_, [], rfl, HO.out, ⟨by simp, by simp⟩, rfl, HB.out⟩
  · have hnp : 0 < n := by omega
    go_enter Try.func90, Try.ntmps90
    go_wp2_with (go_at_call 93; refine (big_make n hnb _).mono ?_)
    rintro e W1 ⟨v, rfl, ho, hb1⟩
    obtain ⟨g, cap, rfl, hg1, hg2, _⟩ := Kd.R_form ho (by rw [List.length_replicate]; exact hnp)
    rw [List.length_replicate] at ho
    rw [← Bn.rowK_zero xs.reverse n] at ho
    have HO := Aside0.mk ho
    have HB := Aside0.mk hb1
    clear ho hb1 hq
    rw [List.length_replicate]
    go_wp2
    obtain ⟨ad, hAd, _⟩ := Kd.at_int HR.out 0 (by omega) (by omega)
    subst hAd
    go_loopw [5, 6] (fun v5 v6 wr => ∃ i k : Nat, v5 = .int .i64 (i : Int) ∧ v6 = .int .i64 (k : Int) ∧ Aside0 (Below w.heap.size w wr) ∧ Aside0 (Kd.R (Kd.int .u64) Big.TW wr w.heap.size (fun _ => True) (.slice (some ⟨g, 0, none⟩) n cap) (Bn.rowK xs.reverse n k)) ∧ i + 8 * k = xs.length) (fun v5 v6 wr => bN v5)
    case atStart => exact ⟨xs.length, 0, rfl, rfl, HB, HO, by omega⟩
    case round =>
      clear HO HB
      obtain ⟨i, k, rfl, rfl, HB, HO, hk⟩ := hrel
      by_cases h8 : 8 ≤ i
      · obtain ⟨m, rfl⟩ : ∃ m, i = m + 8 := ⟨i - 8, by omega⟩
        have hd : decide ((8 : Int) ≤ ((m + 8 : Nat) : Int)) = true := decide_eq_true (by omega)
        have hms : ((m + 8 : Nat) : Int) - 8 = (m : Int) := by omega
        have hmc : ((m + 8 : Nat) : Int) ≤ (c : Int) := by have := HC.out; omega
        have hmc2 : m + 8 ≤ c := by have := HC.out; omega
        have hm0 : (0 : Int) ≤ (m : Int) := by omega
        have hm1 : (m : Int) ≤ ((m + 8 : Nat) : Int) := by omega
        have hkn : k < n := by omega
        have HCALL := Aside0.mk (bgByte (some ad) c xs wr m k hk (Kd.C_below HR.out HB.out) HC.out HX.out ad rfl)
        go_wp2_with (go_at_call 94; refine HCALL.out.mono ?_)
        rintro e W2 ⟨rfl, ⟨q, rfl⟩⟩
        have HO2 := Kd.R_drewN HO.out q
        have HB2 : Aside0 (Below w.heap.size w (wr.drewN q)) := ⟨pw_below_drewN HB.out q⟩
        obtain ⟨hcell, hfrz⟩ := Kd.R_celln (0 : Int) HO2 (k : Int) (by omega) (by omega)
        have hput := Kd.R_putn HO2 (k : Int) (Bn.wd xs.reverse k)
        rw [Int.toNat_natCast] at hcell hfrz hput
        rw [Bn.rowK_set] at hput
        have HP := Aside0.mk hput
        have HB3 : Aside0 (Below w.heap.size w ((wr.drewN q).setCell ⟨g, k, none⟩ (.int .u64 (Bn.wd xs.reverse k)))) := ⟨HB2.out.setCell (p := ⟨g, k, none⟩) hg1 _⟩
        have hk0 : (0 : Int) ≤ (k : Int) := by omega
        have hk1 : (k : Int) < (n : Int) := by omega
        clear HO2 hput HCALL
        go_wp2
        go_roundw
        case rel => exact ⟨m, k + 1, rfl, by first | rfl | (congr 1), HB3, HP, by omega⟩
        case measure =>
          show bN _ < bN _
          simp only [bN]
          omega
      · have hd : decide ((8 : Int) ≤ (i : Int)) = false := decide_eq_false (by omega)
        by_cases hi0 : i = 0
        · subst hi0
          have hd0 : decide ((0 : Int) < ((0 : Nat) : Int)) = false := by decide
          have hnk : n = k := by omega
          subst hnk
          have HO2 := HO.out
          rw [Bn.rowK_full _ _ _ (Nat.le_refl _)] at HO2
          have HE := Aside0.mk (bgEnd w wr g n cap xs.reverse HO2 (fun x hx => HX.out x (List.mem_reverse.1 hx)) (by rw [List.length_reverse]; omega))
          obtain ⟨hn1, hn2, hn3⟩ := Kd.R_reads' HO2
          have hwl : (Bn.words xs.reverse n).length = n := hn1.symm
          have HN := Aside0.mk (big_norm (some ⟨g, 0, none⟩) cap (Bn.words xs.reverse n) wr hn3 (by omega))
          rw [hwl] at HN
          clear HO2 hn1 hn2 hn3 hwl
          go_wp2_with (go_at_call 95; refine HN.out.mono ?_; rintro e w' ⟨rfl, rfl⟩)
          go_ret
          exact ⟨_, _, rfl, HE.out.1, HE.out.2.1, HE.out.2.2, HB.out⟩
        · have hd0 : decide ((0 : Int) < (i : Int)) = true := decide_eq_true (by omega)
          have hnk : n = k + 1 := by omega
          obtain ⟨rl, hrl⟩ : ∃ rl, rl = xs.reverse.drop (8 * k) := ⟨_, rfl⟩
          have HRL := Aside0.mk hrl
          have hrll : rl.length = i := by rw [hrl, List.length_drop, List.length_reverse]; omega
          clear hrl
          go_wp2
          go_loopw [5, 7, 8] (fun v5 v7 v8 wi => ∃ j t : Nat, v5 = .int .i64 (j : Int) ∧ v7 = .int .u64 (Bn.leV (rl.take t)) ∧ v8 = .int .u64 ((8 * t : Nat) : Int) ∧ Aside0 (wi = wr) ∧ j + t = i) (fun v5 v7 v8 wi => bN v5)
          case atStart => exact ⟨i, 0, rfl, rfl, rfl, ⟨rfl⟩, by omega⟩
          case round =>
            obtain ⟨j, t, rfl, rfl, rfl, ⟨rfl⟩, hjt⟩ := hrel
            by_cases hj0 : j = 0
            · subst hj0
              have hdj : decide ((0 : Int) < ((0 : Nat) : Int)) = false := by decide
              obtain rfl : t = i := by omega
              have hwd : Bn.leV (rl.take t) = Bn.wd xs.reverse k := by
                rw [HRL.out]
                unfold Bn.wd
                have e1 : (xs.reverse.drop (8 * k)).length = t := by rw [← HRL.out]; exact hrll
                rw [List.take_of_length_le (by omega), List.take_of_length_le (by omega)]
              obtain ⟨hcell, hfrz⟩ := Kd.R_celln (0 : Int) HO.out (k : Int) (by omega) (by omega)
              have hput := Kd.R_putn HO.out (k : Int) (Bn.wd xs.reverse k)
              rw [Int.toNat_natCast] at hcell hfrz hput
              rw [Bn.rowK_set, Bn.rowK_full _ _ _ (by omega)] at hput
              have HE := Aside0.mk (bgEnd w _ g n cap xs.reverse hput (fun x hx => HX.out x (List.mem_reverse.1 hx)) (by rw [List.length_reverse]; omega))
              obtain ⟨hn1, hn2, hn3⟩ := Kd.R_reads' hput
              have hwl : (Bn.words xs.reverse n).length = n := hn1.symm
              have HN := Aside0.mk (big_norm (some ⟨g, 0, none⟩) cap (Bn.words xs.reverse n) _ hn3 (by omega))
              rw [hwl] at HN
              have HB3 : Aside0 (Below w.heap.size w (wr.setCell ⟨g, k, none⟩ (.int .u64 (Bn.wd xs.reverse k)))) := ⟨HB.out.setCell (p := ⟨g, k, none⟩) hg1 _⟩
              rw [hnk] at HN HE
              have hns : (n : Int) - 1 = (k : Int) := by omega
              have hk0 : (0 : Int) ≤ (k : Int) := by omega
              have hk1 : (k : Int) < (n : Int) := by omega
              clear hput hn1 hn2 hn3 hwl
              go_wp2_with (go_at_call 95; refine HN.out.mono ?_; rintro e w' ⟨rfl, rfl⟩)
              go_ret
              exact ⟨_, _, rfl, HE.out.1, HE.out.2.1, HE.out.2.2, HB3.out⟩
            · obtain ⟨j, rfl⟩ : ∃ m, j = m + 1 := ⟨j - 1, by omega⟩
              have hdj : decide ((0 : Int) < ((j + 1 : Nat) : Int)) = true := decide_eq_true (by omega)
              have hj1 : ((j + 1 : Nat) : Int) - 1 = (j : Int) := by omega
              have hjx : (j : Int) < (xs.length : Int) := by omega
              have hjz : (0 : Int) ≤ (j : Int) := by omega
              obtain ⟨ad', had, hx⟩ := Kd.at_int (Kd.C_below HR.out HB.out) (j : Int) hjz hjx
              obtain rfl : ad = ad' := by simpa using had
              clear had
              rw [Int.toNat_natCast] at hx
              have HXV : Aside0 (∃ h : t < rl.length, rd xs (j : Int) = rl[t]) := by
                refine ⟨by omega, ?_⟩
                have e := HRL.out
                subst e
                rw [List.getElem_drop, List.getElem_reverse]
                have e2 : xs.length - 1 - (8 * k + t) = j := by omega
                simp only [e2]
                simp [rd, List.getD_eq_getElem?_getD, show j < xs.length by omega]
              have ht : t < 8 := by omega
              generalize rd xs (j : Int) = x at hx HXV
              have HST : Aside0 (bits .or .u64 (Bn.leV (rl.take t)) (IntKind.u64.wrap (IntKind.u64.wrap x * 2 ^ (8 * t))) = Bn.leV (rl.take (t + 1))) := ⟨by
                obtain ⟨h1, h2⟩ := HXV.out
                rw [h2]
                refine Bn.step_or rl (fun y hy => ?_) t h1 ht
                rw [HRL.out] at hy
                exact HX.out y (List.mem_reverse.1 (List.mem_of_mem_drop hy))⟩
              go_wp2
              go_roundw
              case rel => exact ⟨j, t + 1, rfl, congrArg (Value.int .u64) HST.out, by rw [show (8 * (t : Int) + 8) = ((8 * (t + 1) : Nat) : Int) by omega], ⟨by first | rfl | trivial⟩, by omega⟩
              case measure =>
                show bN _ < bN _
                simp only [bN]
                omega
theorem bg_infoI : (Try.prog.info? Big.TI).map (·.size) = some 2 := by kernel_rfl
set_option maxHeartbeats 4000000 in
theorem big_SetBytes (o : Nat) (A : Option Addr) (c : Nat) (xs : List Int) (w : World) (ho : w.heap[o]? = some (.cells #[.bool false, .slice none 0 0] Big.TI (0, 0))) (hr : Kd.C (Kd.int .u8) w A xs.length xs) (hc : xs.length ≤ c) (hb : ∀ x ∈ xs, 0 ≤ x ∧ x ≤ 255) (hl : xs.length ≤ 1000000) :
    Calls Try.prog 80 #[.pointer (some ⟨o, 0, none⟩), .slice A xs.length c] w fun e w' => e = .returned (.pointer (some ⟨o, 0, none⟩)) ∧ ∃ u ws, w'.heap[o]? = some (.cells #[.bool false, u] Big.TI (0, 0)) ∧ Kd.R (Kd.int .u64) Big.TW w' w.heap.size (fun _ => True) u ws ∧ Big.okW ws ∧ Big.natW ws = Bn.leV xs.reverse ∧ Below o w w' := by
  have hlt : o < w.heap.size := (Array.getElem?_eq_some_iff.1 ho).1
  have c1 := (blk_cell ho 1).trans rfl
  have HS := Aside0.mk (big_setBytes A c xs w hr hc hb hl)
  have HO := Aside0.mk ho
  clear hr hc hb ho
  go_enter Try.func80, Try.ntmps80
  go_wp2_with (go_at_call 90; refine HS.out.mono ?_)
  rintro e W1 ⟨v, ws, rfl, hR, hok, hval, hB⟩
  obtain ⟨A', c', hv⟩ := Kd.R_slice hR
  subst hv
  have h1 : W1.heap[o]? = some (.cells #[.bool false, .slice none 0 0] Big.TI (0, 0)) := (hB.block o hlt).trans HO.out
  have d1 := (blk_cell h1 1).trans rfl
  have f1 := blk_frozen h1 1
  have h2 := blk_put (cs' := #[.bool false, .slice A' ws.length c']) h1 1 (.slice A' ws.length c') rfl
  have d0 := (blk_cell h2 0).trans rfl
  have f0 := blk_frozen h2 0
  have h3 := blk_put (cs' := #[.bool false, .slice A' ws.length c']) h2 0 (.bool false) rfl
  have HR2 := Kd.R_set hR h1 (by decide) 1 (.slice A' ws.length c')
  have HR3 := Aside0.mk (Kd.R_set HR2 h2 (by decide) 0 (.bool false))
  have H3 := Aside0.mk h3
  have HB3 := Aside0.mk (((hB.mono (Nat.le_of_lt hlt)).setCell (p := ⟨o, 1, none⟩) (Nat.le_refl o) (.slice A' ws.length c')).setCell (p := ⟨o, 0, none⟩) (Nat.le_refl o) (.bool false))
  clear hR hB h1 h2 h3 HR2 HS
  go_wp2
  go_ret
  exact ⟨rfl, _, _, H3.out, HR3.out, hok, hval, HB3.out⟩
set_option maxHeartbeats 4000000 in
theorem big_SetSelf (o : Nat) (w : World) :
    Calls Try.prog 91 #[.pointer (some ⟨o, 0, none⟩), .pointer (some ⟨o, 0, none⟩)] w fun e w' => e = .returned (.pointer (some ⟨o, 0, none⟩)) ∧ w' = w := by
  obtain ⟨j, hj, hjs⟩ := Option.map_eq_some_iff.1 bg_infoI
  have hpe := Lib.run_neq_ptr_same (P := Try.prog) w ⟨o, 0, none⟩ Try.underlying64 hj
  clear hj hjs
  go_enter Try.func91, Try.ntmps91
  go_wp2
  go_ret
  exact ⟨rfl, rfl⟩
set_option maxHeartbeats 4000000 in
/-- x.Neg(x), of a number that is not 0 or is. -/
theorem big_NegSelf (o : Nat) (A : Option Addr) (c n : Nat) (w : World) (ho : w.heap[o]? = some (.cells #[.bool false, .slice A n c] Big.TI (0, 0))) :
    Calls Try.prog 81 #[.pointer (some ⟨o, 0, none⟩), .pointer (some ⟨o, 0, none⟩)] w fun e w' => e = .returned (.pointer (some ⟨o, 0, none⟩)) ∧ w' = w.setCell ⟨o, 0, none⟩ (.bool (decide (0 < n))) := by
  have d0 := (blk_cell ho 0).trans rfl
  have d1 := (blk_cell ho 1).trans rfl
  have f0 := blk_frozen ho 0
  clear ho
  by_cases hn : n = 0
  · subst hn
    have hd : decide ((0 : Int) < ((0 : Nat) : Int)) = false := by decide
    go_enter Try.func81, Try.ntmps81
    go_wp2_with (go_at_call 91; refine (big_SetSelf o _).mono ?_; rintro e w' ⟨rfl, rfl⟩)
    go_ret
    exact ⟨rfl, rfl⟩
  · have hd : decide ((0 : Int) < (n : Int)) = true := decide_eq_true (by omega)
    have hd2 : decide (0 < n) = true := decide_eq_true (by omega)
    rw [hd2]
    go_enter Try.func81, Try.ntmps81
    go_wp2_with (go_at_call 91; refine (big_SetSelf o _).mono ?_; rintro e w' ⟨rfl, rfl⟩)
    go_ret
    exact ⟨rfl, rfl⟩

theorem bytesOf_range (s : ByteArray) : ∀ x ∈ bytesOf s, 0 ≤ x ∧ x ≤ 255 := by
  intro x hx
  obtain ⟨c, _, rfl⟩ := List.mem_map.1 hx
  have := c.toNat_lt
  omega
/-- A number's value, out of what the plain data say. -/
def zval (neg : Bool) (mag : ByteArray) : Int := if neg then -Bn.leV (bytesOf mag).reverse else Bn.leV (bytesOf mag).reverse
theorem natW_nil_zero {ws : List Int} (h : ws.length = 0) : Big.natW ws = 0 := by
  rw [List.length_eq_zero_iff.1 h]
  rfl
set_option maxRecDepth 100000 in
set_option maxHeartbeats 400000 in
theorem big_zzBig (neg : Bool) (mag : ByteArray) (w : World) (hl : mag.size ≤ 1000000) :
    Calls Try.prog 68 #[.agg #[.bool neg, .string mag]] w fun e w' => ∃ v, e = .returned v ∧ Big.Own w' w.heap.size (fun _ => True) (zval neg mag) v ∧ Below w.heap.size w w' := by
  have kb := fun W => print_bytes (P := Try.prog) 9 130 5 Try.underlying9 Try.underlying130 Try.underlying5 mag W
  obtain ⟨WA, hWA⟩ : ∃ WA : World, WA = (w.alloc (.cells #[.bool neg, .string mag] 93)).alloc (.cells #[.bool false, .slice none 0 0] Big.TI) := ⟨_, rfl⟩
  have hs : WA.heap.size = w.heap.size + 2 := by rw [hWA]; simp
  have hs1 : (w.alloc (.cells #[.bool neg, .string mag] 93)).heap.size = w.heap.size + 1 := by simp
  have h0 : WA.heap[w.heap.size]? = some (.cells #[.bool neg, .string mag] 93 (0, 0)) := by rw [hWA]; exact blk_alloc (blk_new w _) _
  have h1 : WA.heap[w.heap.size + 1]? = some (.cells #[.bool false, .slice none 0 0] Big.TI (0, 0)) := by
    have := blk_new (w.alloc (.cells #[.bool neg, .string mag] 93)) (.cells #[.bool false, .slice none 0 0] Big.TI)
    rw [hs1] at this
    rw [hWA]
    exact this
  have hBA : Below w.heap.size w WA := by rw [hWA]; exact ((Below.refl _ w).alloc (Nat.le_refl _) _).alloc (by rw [hs1]; omega) _
  obtain ⟨WB, hWB⟩ : ∃ WB, WB = Lib.bytesWorld WA 5 mag := ⟨_, rfl⟩
  have hBB : Below WA.heap.size WA WB := by rw [hWB]; exact bytes_below (Below.refl _ _) (Nat.le_refl _) 5 mag
  have g0 := (hBB.block w.heap.size (by omega)).trans h0
  have g1 := (hBB.block (w.heap.size + 1) (by omega)).trans h1
  have hrd : Kd.C (Kd.int .u8) WB (some ⟨WA.heap.size, 0, none⟩) (bytesOf mag).length (bytesOf mag) := by
    have := bytes_reads WA 5 mag (by omega)
    rw [hWB, bytesOf_length]
    exact Kd.C_of_reads (enc := Value.int .u8) (d := (0 : Int)) (h1 := fun _ => rfl) this
  have HS := Aside0.mk (big_SetBytes (w.heap.size + 1) (some ⟨WA.heap.size, 0, none⟩) (grownCap WA mag.size 0 5) (bytesOf mag) WB g1 hrd (by rw [bytesOf_length]; exact grownCap_ge _ _ _ _) (bytesOf_range mag) (by rw [bytesOf_length]; exact hl))
  rw [bytesOf_length] at HS
  have G0 := Aside0.mk g0
  have HBW : Aside0 (Below w.heap.size w WB) := ⟨hBA.trans (hBB.mono (by omega))⟩
  have HSZ : Aside0 (w.heap.size ≤ WB.heap.size) := ⟨HBW.out.size⟩
  have HWA := Aside0.mk hWA
  have HWB := Aside0.mk hWB
  have hlt0 : w.heap.size < WB.heap.size := by have := hBB.size; omega
  clear hWA hWB h0 h1 g0 g1 hrd hBB hBA hs1 hs
  have kb2 : Aside0 _ := ⟨kb WA⟩
  clear kb
  go_enter Try.func68, Try.ntmps68
  go_wp2
  rw [← HWA.out, kb2.out]
  simp only [Result.andThen]
  rw [Oper.upon_value, ← HWB.out]
  go_wp2_with (go_at_call 80; refine HS.out.mono ?_)
  rintro e W1 ⟨rfl, u, ws, k1, k2, k3, k4, k5⟩
  obtain ⟨A', c', rfl⟩ := Kd.R_slice k2
  have q0 := (k5.block w.heap.size (by omega)).trans G0.out
  have d0 := (blk_cell q0 0).trans rfl
  have hRL := Kd.R_lower k2 HSZ.out
  have HB1 : Aside0 (Below w.heap.size w W1) := ⟨HBW.out.trans (k5.mono (by omega))⟩
  cases neg with
  | false =>
    have HF : Aside0 (Big.Own W1 w.heap.size (fun _ => True) (zval false mag) (.pointer (some ⟨w.heap.size + 1, 0, none⟩))) := ⟨⟨w.heap.size + 1, _, false, ws, rfl, trivial, by omega, k1, hRL, k3, by simp, by rw [Big.valW, zval, k4]⟩⟩
    clear k1 k2 k3 k4 k5 q0 hRL HS G0
    go_wp2
    go_ret
    exact ⟨_, rfl, HF.out, HB1.out⟩
  | true =>
    have HN := Aside0.mk (big_NegSelf (w.heap.size + 1) A' c' ws.length W1 k1)
    have m1 := blk_put (cs' := #[.bool (decide (0 < ws.length)), .slice A' ws.length c']) k1 0 (.bool (decide (0 < ws.length))) rfl
    have m2 := Kd.R_set hRL k1 (by decide) 0 (.bool (decide (0 < ws.length)))
    have HF : Aside0 (Big.Own (W1.setCell ⟨w.heap.size + 1, 0, none⟩ (.bool (decide (0 < ws.length)))) w.heap.size (fun _ => True) (zval true mag) (.pointer (some ⟨w.heap.size + 1, 0, none⟩))) := ⟨⟨w.heap.size + 1, _, _, ws, rfl, trivial, by omega, m1, m2, k3, fun h => by
        have := of_decide_eq_true h
        intro hn
        subst hn
        simp at this, by
        rw [Big.valW, zval, ← k4]
        by_cases hz : ws.length = 0
        · rw [natW_nil_zero hz]
          simp
        · rw [decide_eq_true (show 0 < ws.length by omega)]⟩⟩
    have HB2 : Aside0 (Below w.heap.size w (W1.setCell ⟨w.heap.size + 1, 0, none⟩ (.bool (decide (0 < ws.length))))) := ⟨HB1.out.setCell (p := ⟨w.heap.size + 1, 0, none⟩) (by show w.heap.size ≤ w.heap.size + 1; omega) _⟩
    clear k1 k2 k3 k4 k5 q0 hRL HS G0 m1 m2
    go_wp2_with (go_at_call 81; refine HN.out.mono ?_; rintro e w' ⟨rfl, rfl⟩)
    go_ret
    exact ⟨_, rfl, HF.out, HB2.out⟩
theorem bgc_rd (a : List Int) (i : Nat) (h : i < a.length) : rd a (i : Int) = a[i] := by
  rw [Evs.rd_nat, List.getD_eq_getElem?_getD, List.getElem?_eq_getElem h]
  rfl
theorem bgc_j2 (a b : List Int) (ha : Big.okW a) (hb : Big.okW b) (i : Nat) (h : i < a.length) (h' : i < b.length) (he : a.drop (i + 1) = b.drop (i + 1)) (hz : a.length = b.length) (heq : a[i] = b[i] → i = 0) : Ev (fun k => bigall_nat_cmp.j2 k a b 0 (i : Int)) (Bn.cmpZ (Big.natW a) (Big.natW b)) := by
  refine Ev.step (fun _ => by rw [bigall_nat_cmp.j2, bgc_rd a i h, bgc_rd b i h']) (Evs.ev_pos (by omega) (Evs.ev_pos (by omega) (Evs.ev_pos (by omega) ?_)))
  by_cases h1 : a[i] < b[i]
  · have := Bn.natW_at a b ha.1 hb.1 i h h' he h1
    refine Evs.ev_pos h1 (Evs.ev_now ?_)
    rw [Bn.cmpZ, if_pos this]
  · refine Evs.ev_neg h1 ?_
    by_cases h2 : b[i] < a[i]
    · have := Bn.natW_at b a hb.1 ha.1 i h' h he.symm h2
      refine Evs.ev_pos h2 (Evs.ev_now ?_)
      rw [Bn.cmpZ, if_neg (by omega), if_pos this]
    · refine Evs.ev_neg h2 (Evs.ev_now ?_)
      have e : a[i] = b[i] := by omega
      obtain rfl := heq e
      have : a = b := by
        have e1 := List.drop_eq_getElem_cons h
        have e2 := List.drop_eq_getElem_cons h'
        rw [List.drop_zero] at e1 e2
        rw [e1, e2, he, e]
      rw [this, Bn.cmpZ, if_neg (by omega), if_neg (by omega)]
theorem bgc_l0 (a b : List Int) (ha : Big.okW a) (hb : Big.okW b) (hz : a.length = b.length) (hl : a.length ≤ 9223372036854775807) : ∀ i : Nat, i < a.length → a.drop (i + 1) = b.drop (i + 1) → Ev (fun k => bigall_nat_cmp.l0 k a b 0 (i : Int)) (Bn.cmpZ (Big.natW a) (Big.natW b)) := by
  intro i
  induction i with
  | zero =>
    intro h he
    exact Ev.step (fun _ => by rw [bigall_nat_cmp.l0]) (Evs.ev_neg (by omega) (bgc_j2 a b ha hb 0 h (by omega) he hz (fun _ => rfl)))
  | succ i ih =>
    intro h he
    have h' : i + 1 < b.length := by omega
    have hw : wrap64 (((i + 1 : Nat) : Int) - 1) = (i : Int) := by rw [Evs.wrap_in (by omega) (by omega)]; omega
    refine Ev.step (fun _ => by rw [bigall_nat_cmp.l0, bgc_rd a (i + 1) h, bgc_rd b (i + 1) h', hw]) (Evs.ev_pos (by omega) (Evs.ev_pos (by omega) (Evs.ev_pos (by omega) (Evs.ev_pos (by omega) ?_))))
    by_cases e : a[i + 1] = b[i + 1]
    · refine Evs.ev_pos e (ih (by omega) ?_)
      rw [List.drop_eq_getElem_cons h, List.drop_eq_getElem_cons h', he, e]
    · exact Evs.ev_neg e (bgc_j2 a b ha hb (i + 1) h h' he hz (fun hh => absurd hh e))
theorem bgc_nat (a b : List Int) (ha : Big.okW a) (hb : Big.okW b) (hl : a.length ≤ 9223372036854775807) (hl' : b.length ≤ 9223372036854775807) : Ev (fun k => bigall_nat_cmp.f k a b) (Bn.cmpZ (Big.natW a) (Big.natW b)) := by
  unfold bigall_nat_cmp.f
  by_cases hz : a.length = b.length
  · refine Evs.ev_pos (by omega) ?_
    by_cases h0 : a.length = 0
    · have ea : a = [] := List.length_eq_zero_iff.1 h0
      have eb : b = [] := List.length_eq_zero_iff.1 (by omega)
      subst ea
      subst eb
      refine Ev.step (fun _ => by rw [bigall_nat_cmp.j0]) (Evs.ev_pos (by rfl) (Evs.ev_neg (by omega) (Evs.ev_neg (by omega) (Evs.ev_now ?_))))
      rfl
    · have hb0 : ((a.length : Int) == 0) = false := beq_eq_false_iff_ne.2 (by omega)
      rw [hb0]
      have hw : wrap64 ((a.length : Int) - 1) = ((a.length - 1 : Nat) : Int) := by rw [Evs.wrap_in (by omega) (by omega)]; omega
      refine Ev.step (fun _ => by rw [bigall_nat_cmp.j0, hw]) (Evs.ev_neg (by decide) ?_)
      refine bgc_l0 a b ha hb hz hl (a.length - 1) (by omega) ?_
      rw [List.drop_of_length_le (by omega), List.drop_of_length_le (by omega)]
  · refine Evs.ev_neg (by omega) (Ev.step (fun _ => by rw [bigall_nat_cmp.j0]) (Evs.ev_pos rfl ?_))
    by_cases h1 : a.length < b.length
    · have := Bn.natW_len a b ha hb h1
      refine Evs.ev_pos (by omega) (Evs.ev_now ?_)
      rw [Bn.cmpZ, if_pos this]
    · have := Bn.natW_len b a hb ha (by omega)
      refine Evs.ev_neg (by omega) (Evs.ev_pos (by omega) (Evs.ev_now ?_))
      rw [Bn.cmpZ, if_neg (by omega), if_pos this]
theorem bgc_calls (A : Option Addr) (c : Nat) (a : List Int) (A' : Option Addr) (c' : Nat) (b : List Int) (w : World) (hr : Kd.C (Kd.int .u64) w A a.length a) (hc : a.length ≤ c) (hr' : Kd.C (Kd.int .u64) w A' b.length b) (hc' : b.length ≤ c') (ha : Big.okW a) (hb : Big.okW b) (hl : a.length ≤ 9223372036854775807) (hl' : b.length ≤ 9223372036854775807) :
    Calls Try.prog 83 #[.slice A a.length c, .slice A' b.length c'] w fun e w' => e = .returned (.int .i64 (Bn.cmpZ (Big.natW a) (Big.natW b))) ∧ Drawn0 w w' := by
  obtain ⟨k, hk⟩ := bgc_nat a b ha hb hl hl'
  exact bigall_nat_cmp.calls k A c a A' c' b _ w hr hc hr' hc' (hk k (Nat.le_refl k))
theorem bgc_same (w : World) (A : Option Addr) : ∀ (n : Nat) (a b : List Int), Kd.C (Kd.int .u64) w A n a → Kd.C (Kd.int .u64) w A n b → a = b := by
  intro n a b h h'
  have e1 := Kd.C_len h
  have e2 := Kd.C_len h'
  refine List.ext_getElem (by omega) (fun i h1 h2 => ?_)
  obtain ⟨ad, e, hx⟩ := Kd.at_int h (i : Int) (by omega) (by omega)
  obtain ⟨ad', e', hx'⟩ := Kd.at_int h' (i : Int) (by omega) (by omega)
  rw [e] at e'
  obtain rfl := Option.some.inj e'
  rw [hx] at hx'
  rw [bgc_rd a i h1, bgc_rd b i h2] at hx'
  simpa using hx'
theorem bgc_infoI : (Try.prog.info? Big.TI).map (·.size) = some 2 := by kernel_rfl
set_option maxHeartbeats 4000000 in
theorem big_Cmp (v v' : Value) (z z' : Int) (w : World) (h : Big.At w z v) (h' : Big.At w z' v') :
    Calls Try.prog 70 #[v, v'] w fun e w' => e = .returned (.int .i64 (Bn.cmpZ z z')) ∧ Drawn0 w w' := by
  obtain ⟨o, A, c, neg, ws, rfl, q1, q2, q3, q4, q5, rfl⟩ := h
  obtain ⟨o', A', c', neg', ws', rfl, k1, k2, k3, k4, k5, rfl⟩ := h'
  obtain ⟨j, hj, hjs⟩ := Option.map_eq_some_iff.1 bgc_infoI
  by_cases ho : o = o'
  · subst ho
    rw [q1] at k1
    have e := Option.some.inj k1
    have hval : Bn.cmpZ (Big.valW neg ws) (Big.valW neg' ws') = 0 := by
      simp at e
      obtain ⟨e1, e2, e3, e4⟩ := e
      subst e1
      subst e2
      rw [← e3] at k2
      rw [bgc_same w A _ _ _ q2 k2, Bn.cmpZ, if_neg (by omega), if_neg (by omega)]
    rw [hval]
    have hpe := run_eql_ptr_same (P := Try.prog) (w := w) ⟨o, 0, none⟩ Try.underlying64 hj
    clear q1 k1 hj hjs e q2 k2
    go_enter Try.func70, Try.ntmps70
    go_wp2
    go_ret
    exact ⟨rfl, Drawn0.refl _⟩
  · have hpe := run_eql_ptr_other (P := Try.prog) (w := w) (a := ⟨o, 0, none⟩) (b := ⟨o', 0, none⟩) Try.underlying64 hj (by rw [hjs]; decide) (by intro e; exact ho (by injection e)) q1 k1
    have HN : Aside0 (∀ W, Drawn0 w W → Calls Try.prog 83 #[.slice A ws.length c, .slice A' ws'.length c'] W fun e w' => e = .returned (.int .i64 (Bn.cmpZ (Big.natW ws) (Big.natW ws'))) ∧ Drawn0 W w') := ⟨fun W hW => by
      obtain ⟨q, rfl⟩ := hW.out
      exact bgc_calls A c ws A' c' ws' _ (Kd.C_drewN q2 q) q3 (Kd.C_drewN k2 q) k3 q4 k4 (Kd.C_max q2) (Kd.C_max k2)⟩
    have d0 := (blk_cell q1 0).trans rfl
    have d1 := (blk_cell q1 1).trans rfl
    have e0 := (blk_cell k1 0).trans rfl
    have e1 := (blk_cell k1 1).trans rfl
    have n1 := Bn.natW_nonneg ws q4.1
    have n2 := Bn.natW_nonneg ws' k4.1
    have NP : neg = true → 1 ≤ Big.natW ws := fun h => by
      have := Bn.natW_len [] ws ⟨by simp, by simp⟩ q4 (by have := q5 h; cases ws with | nil => exact absurd rfl this | cons => simp)
      have e : Big.natW [] = 0 := rfl
      omega
    have NP' : neg' = true → 1 ≤ Big.natW ws' := fun h => by
      have := Bn.natW_len [] ws' ⟨by simp, by simp⟩ k4 (by have := k5 h; cases ws' with | nil => exact absurd rfl this | cons => simp)
      have e : Big.natW [] = 0 := rfl
      omega
    have V1 : neg = false → neg' = false → Bn.cmpZ (Big.natW ws) (Big.natW ws') = Bn.cmpZ (Big.valW neg ws) (Big.valW neg' ws') := fun h h' => by rw [h, h']; rfl
    have V2 : neg = true → neg' = true → -Bn.cmpZ (Big.natW ws) (Big.natW ws') = Bn.cmpZ (Big.valW neg ws) (Big.valW neg' ws') := fun h h' => by
      rw [h, h']
      unfold Bn.cmpZ Big.valW
      rw [if_pos rfl, if_pos rfl]
      repeat' split
      all_goals omega
    have V3 : neg = true → neg' = false → -1 = Bn.cmpZ (Big.valW neg ws) (Big.valW neg' ws') := fun h h' => by
      have := NP h
      rw [h, h']
      show -1 = Bn.cmpZ (-Big.natW ws) (Big.natW ws')
      unfold Bn.cmpZ
      rw [if_pos (by omega)]
    have V4 : neg = false → neg' = true → 1 = Bn.cmpZ (Big.valW neg ws) (Big.valW neg' ws') := fun h h' => by
      have := NP' h'
      rw [h, h']
      show 1 = Bn.cmpZ (Big.natW ws) (-Big.natW ws')
      unfold Bn.cmpZ
      rw [if_neg (by omega), if_pos (by omega)]
    have HV1 := Aside0.mk V1
    have HV2 := Aside0.mk V2
    have HV3 := Aside0.mk V3
    have HV4 := Aside0.mk V4
    obtain ⟨r, hr⟩ : ∃ r, r = Bn.cmpZ (Big.valW neg ws) (Big.valW neg' ws') := ⟨_, rfl⟩
    rw [← hr] at HV1 HV2 HV3 HV4
    rw [← hr]
    obtain ⟨x, hx⟩ : ∃ x, x = Bn.cmpZ (Big.natW ws) (Big.natW ws') := ⟨_, rfl⟩
    have hx1 : -1 ≤ x ∧ x ≤ 1 := by rw [hx]; unfold Bn.cmpZ; repeat' split <;> omega
    rw [← hx] at HV1 HV2 HN
    clear hr hx q1 q2 q3 q4 q5 k1 k2 k3 k4 k5 hj hjs n1 n2 NP NP' V1 V2 V3 V4
    cases neg with
    | false =>
      cases neg' with
      | false =>
        have HV := HV1.out rfl rfl
        subst HV
        go_enter Try.func70, Try.ntmps70
        go_wp2
        go_quiet (fail)
        try go_wp2
        go_quiet ((go_at_call 83; refine (HN.out _ (by first | exact Drawn0.refl _ | exact ⟨⟨_, rfl⟩⟩)).mono ?_; rintro e w' ⟨rfl, ⟨nd, rfl⟩⟩; (try first | exact ⟨rfl, _, World.drewN_drewN _ _ _⟩ | exact ⟨rfl, _, Eq.trans (World.drewN_drewN _ _ _) (congrArg (World.drewN _) (Nat.add_assoc _ _ _))⟩)))
        go_wp2
        go_ret
        exact ⟨rfl, ⟨⟨_, rfl⟩⟩⟩
      | true =>
        have HV := HV4.out rfl rfl
        subst HV
        go_enter Try.func70, Try.ntmps70
        go_wp2
        go_quiet (fail)
        go_wp2
        go_ret
        exact ⟨rfl, by repeat (first | exact Drawn0.refl _ | apply Drawn0.step)⟩
    | true =>
      cases neg' with
      | false =>
        have HV := HV3.out rfl rfl
        subst HV
        go_enter Try.func70, Try.ntmps70
        go_wp2
        go_quiet (fail)
        go_wp2
        go_ret
        exact ⟨rfl, by repeat (first | exact Drawn0.refl _ | apply Drawn0.step)⟩
      | true =>
        have HV := HV2.out rfl rfl
        subst HV
        go_enter Try.func70, Try.ntmps70
        go_wp2
        go_quiet (fail)
        try go_wp2
        go_quiet ((go_at_call 83; refine (HN.out _ (by first | exact Drawn0.refl _ | exact ⟨⟨_, rfl⟩⟩)).mono ?_; rintro e w' ⟨rfl, ⟨nd, rfl⟩⟩; (try first | exact ⟨rfl, _, World.drewN_drewN _ _ _⟩ | exact ⟨rfl, _, Eq.trans (World.drewN_drewN _ _ _) (congrArg (World.drewN _) (Nat.add_assoc _ _ _))⟩)))
        go_wp2
        go_ret
        exact ⟨rfl, ⟨⟨_, rfl⟩⟩⟩
theorem bgs_info : (Try.prog.info? 64).map (fun i => (i.zero, i.size, i.bytes)) = some (some (.pointer none), 1, 8) := by kernel_rfl
theorem at_ZZ {w : World} {A : Option Addr} {n : Nat} {xs : List S93} (h : Kd.C k93 w A n xs) (i : Nat) (h1 : i < xs.length) (hn : n = xs.length) : ∃ ad, A = some ad ∧ w.cell? (ad.add (i * 2)) = some (.bool (xs[i]).f0) ∧ w.cell? ⟨(ad.add (i * 2)).block, (ad.add (i * 2)).off + 1, none⟩ = some (.string (xs[i]).f1) := by
  obtain ⟨ad, c, e, _, hK, hc0⟩ := Kd.C_get h xs[i] (i : Int) (by omega) (by omega)
  have hc : ∀ j u, c[j]? = some u → w.cell? (ad.add (i * 2 + j)) = some u := hc0
  have hg : xs.getD (i : Int).toNat xs[i] = xs[i] := by rw [Int.toNat_natCast, List.getD_eq_getElem?_getD, List.getElem?_eq_getElem h1]; rfl
  rw [hg] at hK
  obtain rfl := k93_open hK
  exact ⟨ad, e, hc 0 _ rfl, by rw [← add_field _ _ 1 (by omega)]; exact hc 1 _ rfl⟩
def zvS (x : S93) : Int := zval x.f0 x.f1
def bzN : Value → Nat
  | .int _ n => n.toNat
  | _ => 0
set_option maxRecDepth 100000 in
set_option maxHeartbeats 4000000 in
theorem big_zzBigs (A : Option Addr) (c : Nat) (l : List S93) (w : World) (hr : Kd.C k93 w A l.length l) (hc : l.length ≤ c) (hs : ∀ x ∈ l, x.f1.size ≤ 1000000) (hl : l.length ≤ 1000000) :
    Calls Try.prog 51 #[.slice A l.length c] w fun e w' => ∃ v, e = .returned v ∧ Kd.R Big.kd 64 w' w.heap.size (fun _ => True) v (l.map zvS) ∧ Below w.heap.size w w' := by
  have HR := Aside0.mk hr
  have HC := Aside0.mk hc
  have HS := Aside0.mk hs
  clear hr hc hs
  have hu := Try.underlying93
  go_enter Try.func51, Try.ntmps51
  go_wp2
  go_loopw [3, 8] (fun v3 v8 wr => ∃ i : Nat, v8 = .int .i64 (i : Int) ∧ Aside0 (Kd.R Big.kd 64 wr w.heap.size (fun _ => True) v3 ((l.map zvS).take i)) ∧ Aside0 (Below w.heap.size w wr) ∧ i ≤ l.length) (fun v3 v8 wr => l.length - bzN v8)
  case atStart => exact ⟨0, rfl, ⟨Kd.R_nil _ _ _ _ _⟩, ⟨Below.refl _ _⟩, by omega⟩
  case round =>
    obtain ⟨i, rfl, HO, HB, hi⟩ := hrel
    by_cases h : i < l.length
    · have hd : decide ((i : Int) < (l.length : Int)) = true := decide_eq_true (by omega)
      have hi0 : (0 : Int) ≤ (i : Int) := by omega
      have hi1 : (i : Int) < (l.length : Int) := by omega
      obtain ⟨ad, hA, hx0, hx1⟩ := at_ZZ (Kd.C_below HR.out HB.out) i h rfl
      subst hA
      have HX := Aside0.mk (HS.out _ (List.getElem_mem h))
      have HT : Aside0 ((l.map zvS).take i ++ [zvS l[i]] = (l.map zvS).take (i + 1)) := ⟨by rw [← List.take_append_getElem (by simpa using h : i < (l.map zvS).length), List.getElem_map]⟩
      have hzz : zvS l[i] = zval l[i].f0 l[i].f1 := rfl
      generalize zvS l[i] = zz at HT hzz
      generalize l[i].f0 = b0 at hx0 hzz
      generalize l[i].f1 = b1 at hx1 HX hzz
      subst hzz
      go_wp2_with (go_at_call 68; refine (big_zzBig b0 b1 _ HX.out).mono ?_)
      rintro e W1 ⟨v, rfl, hown, hb⟩
      have HB1 : Aside0 (Below w.heap.size w W1) := ⟨(HB.out.alloc HB.out.size _).trans (hb.mono (by have := HB.out.size; simp; omega))⟩
      have HO1 : Aside0 (Kd.R Big.kd 64 W1 w.heap.size (fun _ => True) u3 ((l.map zvS).take i)) := ⟨Kd.R_below (Kd.R_alloc HO.out _) hb⟩
      have hlt := Kd.R_lt HO.out
      obtain ⟨o, hvo⟩ : ∃ o, v = .pointer (some ⟨o, 0, none⟩) := by obtain ⟨o, u, neg, ws, e, _⟩ := hown; exact ⟨o, e⟩
      subst hvo
      have HM : Aside0 (Big.kd.M W1 w.heap.size (fun k => True ∧ some k ≠ u3.ownBlock) (zval b0 b1) [.pointer (some ⟨o, 0, none⟩)]) := ⟨⟨_, rfl, Big.Own.mono (fun k hk => ⟨trivial, fun e => by
        have h1 := hlt k e.symm
        have h2 := hk.2.1
        simp at h2
        omega⟩) (Big.Own.lower (by have := HB.out.size; simp; omega) hown.bound)⟩⟩
      have HL : Aside0 (((l.map zvS).take i).length + 1 ≤ 1000001) := ⟨by simp; omega⟩
      clear hown hb hlt
      go_wp2_with ((with_reducible refine gate_builtin (b := .append) (xs := #[.tmp 12, .tmp 15]) rfl ?_); at_builtin; refine Kd.R_append Big.kd (w0 := w) w.heap.size rfl (.tmp 12) (.tmp 15) 65 64 (.pointer none) 8 rfl Try.underlying65 bgs_info rfl (by decide) (by omega) u3 ((l.map zvS).take i) (zval b0 b1) [.pointer (some ⟨o, 0, none⟩)] (fun _ => True) (fun k => True ∧ some k ≠ u3.ownBlock) rfl (by first | rfl | (go_simp; done)) HM.out (fun _ hk => hk) (fun _ _ => trivial) HO1.out HB1.out HB1.out.size (by have := HL.out; omega) ?_)
      intro v1 W2 ho hb2 hg hat
      rw [HT.out] at ho
      have HO2 := Aside0.mk ho
      have HB2 := Aside0.mk hb2
      clear ho hb2 hg hat HM HO1 HB1
      go_wp2
      go_roundw
      case rel => exact ⟨i + 1, rfl, HO2, HB2, by omega⟩
      case measure =>
        show l.length - bzN _ < l.length - bzN _
        simp only [bzN]
        omega
    · have hd : decide ((i : Int) < (l.length : Int)) = false := decide_eq_false (by omega)
      have HO2 := HO.out
      rw [List.take_of_length_le (by simp; omega)] at HO2
      have HO3 := Aside0.mk HO2
      clear HO2 HO
      go_wp2
      go_ret
      exact ⟨_, rfl, HO3.out, HB.out⟩
set_option maxHeartbeats 4000000 in
theorem big_NewInt0 (w : World) : Calls Try.prog 82 #[.int .i64 0] w fun e w' => ∃ v, e = .returned v ∧ Big.Own w' w.heap.size (fun _ => True) 0 v ∧ Below w.heap.size w w' := by
  go_enter Try.func82, Try.ntmps82
  go_wp2
  go_ret
  refine ⟨_, rfl, ⟨w.heap.size, .slice none 0 0, false, [], rfl, trivial, Nat.le_refl _, blk_new w _, Kd.R_nil _ _ _ _ _, ⟨by simp, by simp⟩, by simp, rfl⟩, (Below.refl _ _).alloc (Nat.le_refl _) _⟩
theorem at_big {w : World} {A : Option Addr} {n : Nat} {zs : List Int} (h : Kd.C Big.kd w A n zs) (i : Nat) (h1 : i < zs.length) (hn : n = zs.length) : ∃ ad v, A = some ad ∧ Big.At w zs[i] v ∧ w.cell? (ad.add i) = some v := by
  obtain ⟨ad, c, e, _, hK, hc0⟩ := Kd.C_get h zs[i] (i : Int) (by omega) (by omega)
  have hg : zs.getD (i : Int).toNat zs[i] = zs[i] := by rw [Int.toNat_natCast, List.getD_eq_getElem?_getD, List.getElem?_eq_getElem h1]; rfl
  rw [hg] at hK
  obtain ⟨v, rfl, hv⟩ := hK
  have := hc0 0 v rfl
  refine ⟨ad, v, e, hv, ?_⟩
  have e2 : (i : Int).toNat * Big.kd.sz + 0 = i := by show (i : Int).toNat * 1 + 0 = i; omega
  rw [e2] at this
  exact this
/-- A number at a place of a list; behind the end 0. -/
def nth (zs : List Int) (i : Nat) : Int := zs.getD i 0
set_option maxHeartbeats 4000000 in
theorem big_Fetch (o : Nat) (A : Option Addr) (c : Nat) (zs : List Int) (i : Nat) (w : World) (ho : w.heap[o]? = some (.cells #[.slice A zs.length c] 66 (0, 0))) (hr : Kd.C Big.kd w A zs.length zs) (hc : zs.length ≤ c) :
    Calls Try.prog 69 #[.pointer (some ⟨o, 0, none⟩), .int .i64 (i : Int)] w fun e w' => ∃ v, e = .returned v ∧ Big.At w' (nth zs i) v ∧ Below w.heap.size w w' := by
  have d0 := (blk_cell ho 0).trans rfl
  clear ho
  by_cases h : zs.length ≤ i
  · have hd : decide ((zs.length : Int) ≤ (i : Int)) = true := decide_eq_true (by omega)
    have hn : nth zs i = 0 := by rw [nth, List.getD_eq_getElem?_getD, List.getElem?_eq_none h]; rfl
    rw [hn]
    clear hr
    go_enter Try.func69, Try.ntmps69
    go_wp2_with (go_at_call 82; refine (big_NewInt0 _).mono ?_)
    rintro e W1 ⟨v, rfl, hown, hb⟩
    obtain ⟨o', hvo⟩ : ∃ o, v = .pointer (some ⟨o, 0, none⟩) := by obtain ⟨o, u, neg, ws, e, _⟩ := hown; exact ⟨o, e⟩
    subst hvo
    have HA := Aside0.mk hown.at_
    have HB := Aside0.mk hb
    clear hown hb
    go_wp2
    go_ret
    exact ⟨_, rfl, HA.out, HB.out⟩
  · have hd : decide ((zs.length : Int) ≤ (i : Int)) = false := decide_eq_false (by omega)
    have hil : i < zs.length := by omega
    obtain ⟨ad, v, hA, hv, hx⟩ := at_big hr i hil rfl
    subst hA
    have hn : nth zs i = zs[i] := by rw [nth, List.getD_eq_getElem?_getD, List.getElem?_eq_getElem hil]; rfl
    rw [← hn] at hv
    obtain ⟨o', hvo⟩ : ∃ o, v = .pointer (some ⟨o, 0, none⟩) := by obtain ⟨o, A, c, neg, ws, e, _⟩ := hv; exact ⟨o, e⟩
    subst hvo
    have HA := Aside0.mk hv
    have hi0 : (0 : Int) ≤ (i : Int) := by omega
    have hi1 : (i : Int) < (zs.length : Int) := by omega
    clear hv hn hr
    go_enter Try.func69, Try.ntmps69
    go_wp2
    go_ret
    exact ⟨_, rfl, HA.out, Below.refl _ _⟩
/-- How lists of numbers compare: the first place where they differ, the shorter one filled up with 0; d: how many places are left. -/
def cmpFrom (a b : List Int) : Nat → Nat → Int
  | 0, _ => 0
  | d + 1, i => if Bn.cmpZ (nth a i) (nth b i) = 0 then cmpFrom a b d (i + 1) else Bn.cmpZ (nth a i) (nth b i)
def cmpLists (a b : List Int) : Int := cmpFrom a b (max a.length b.length) 0
def bcN : Value → Nat
  | .int _ n => n.toNat
  | _ => 0
set_option maxRecDepth 100000 in
set_option maxHeartbeats 4000000 in
theorem big_CompsCmp (o : Nat) (A : Option Addr) (c : Nat) (a : List Int) (A' : Option Addr) (c' : Nat) (b : List Int) (w : World) (ho : w.heap[o]? = some (.cells #[.slice A a.length c] 66 (0, 0))) (hr : Kd.C Big.kd w A a.length a) (hc : a.length ≤ c) (hr' : Kd.C Big.kd w A' b.length b) (hc' : b.length ≤ c') :
    Calls Try.prog 52 #[.pointer (some ⟨o, 0, none⟩), .slice A' b.length c'] w fun e w' => e = .returned (.int .i64 (cmpLists a b)) ∧ Below w.heap.size w w' := by
  have lm := Kd.C_max hr
  have lm' := Kd.C_max hr'
  obtain ⟨WA, hWA⟩ : ∃ WA : World, WA = w.alloc (.cells #[.slice A' b.length c'] 66) := ⟨_, rfl⟩
  have hBA : Below w.heap.size w WA := by rw [hWA]; exact (Below.refl _ w).alloc (Nat.le_refl _) _
  have h0 : WA.heap[o]? = some (.cells #[.slice A a.length c] 66 (0, 0)) := blk_below ho hBA
  have h1 : WA.heap[w.heap.size]? = some (.cells #[.slice A' b.length c'] 66 (0, 0)) := by rw [hWA]; exact blk_new w _
  have H0 := Aside0.mk h0
  have H1 := Aside0.mk h1
  have HR := Aside0.mk (Kd.C_below hr hBA)
  have HR' := Aside0.mk (Kd.C_below hr' hBA)
  have HBA := Aside0.mk hBA
  have HWA := Aside0.mk hWA
  clear ho hr hr' hBA h0 h1 hWA
  obtain ⟨r, hr⟩ : ∃ r, r = cmpLists a b := ⟨_, rfl⟩
  rw [← hr]
  have HRR := Aside0.mk hr
  clear hr
  rcases Nat.lt_or_ge a.length b.length with hle | hle
  · have HR2 : Aside0 (cmpFrom a b (b.length - 0) 0 = r) := ⟨by rw [HRR.out, cmpLists, Nat.max_eq_right (by omega), Nat.sub_zero]⟩
    go_enter Try.func52, Try.ntmps52
    go_wp2
    rw [← HWA.out]
    have d0 := (blk_cell H0.out 0).trans rfl
    have d1 := (blk_cell H1.out 0).trans rfl
    go_quiet (fail)
    clear d0 d1
    go_wp2
    go_loopw [16] (fun v16 wr => ∃ i : Nat, v16 = .int .i64 (i : Int) ∧ Aside0 (Below WA.heap.size WA wr) ∧ Aside0 (cmpFrom a b (b.length - i) i = r) ∧ i ≤ b.length) (fun v16 wr => b.length - bcN v16)
    case atStart => exact ⟨0, rfl, ⟨by first | exact Below.refl _ _ | exact pw_below_drewN (Below.refl _ _) _⟩, HR2, by omega⟩
    case round =>
      obtain ⟨i, rfl, HB, HV, hi⟩ := hrel
      by_cases h : i < b.length
      · have hd : decide ((i : Int) < (b.length : Int)) = true := decide_eq_true (by omega)
        have HF1 := Aside0.mk (big_Fetch o A c a i wr (blk_below H0.out HB.out) (Kd.C_below HR.out HB.out) hc)
        go_wp2_with (go_at_call 69; refine HF1.out.mono ?_)
        rintro e W1 ⟨v1, rfl, ha1, hb1⟩
        have HB1 : Aside0 (Below WA.heap.size WA W1) := ⟨HB.out.trans (hb1.mono HB.out.size)⟩
        have HF2 := Aside0.mk (big_Fetch w.heap.size A' c' b i W1 (blk_below H1.out HB1.out) (Kd.C_below HR'.out HB1.out) hc')
        obtain ⟨o1, hvo⟩ : ∃ o, v1 = .pointer (some ⟨o, 0, none⟩) := by obtain ⟨o, A, c, neg, ws, e, _⟩ := ha1; exact ⟨o, e⟩
        subst hvo
        have HA1 := Aside0.mk ha1
        clear hb1 ha1 HF1
        go_wp2_with (go_at_call 69; refine HF2.out.mono ?_)
        rintro e W2 ⟨v2, rfl, ha2, hb2⟩
        have HB2 : Aside0 (Below WA.heap.size WA W2) := ⟨HB1.out.trans (hb2.mono HB1.out.size)⟩
        obtain ⟨o2, hvo⟩ : ∃ o, v2 = .pointer (some ⟨o, 0, none⟩) := by obtain ⟨o, A, c, neg, ws, e, _⟩ := ha2; exact ⟨o, e⟩
        subst hvo
        have HC1 := Aside0.mk (big_Cmp _ _ _ _ W2 (HA1.out.below hb2) ha2)
        clear hb2 ha2 HF2 HA1
        obtain ⟨x, hx⟩ : ∃ x, x = Bn.cmpZ (nth a i) (nth b i) := ⟨_, rfl⟩
        rw [← hx] at HC1
        obtain ⟨d, hdd⟩ : ∃ d, b.length - i = d + 1 := ⟨b.length - i - 1, by omega⟩
        have HVV : Aside0 ((if x = 0 then cmpFrom a b d (i + 1) else x) = r) := ⟨by rw [← HV.out, hdd, cmpFrom, hx]⟩
        go_wp2_with (go_at_call 70; refine HC1.out.mono ?_)
        rintro e W3 ⟨rfl, ⟨q, rfl⟩⟩
        have HB3 : Aside0 (Below WA.heap.size WA (W2.drewN q)) := ⟨pw_below_drewN HB2.out q⟩
        clear hx HC1
        by_cases hz : x = 0
        · have tz : (x != 0) = false := bne_eq_false_iff_eq.2 hz
          have HV3 : Aside0 (cmpFrom a b d (i + 1) = r) := ⟨by rw [← HVV.out, if_pos hz]⟩
          clear hz
          go_wp2
          go_roundw
          case rel => exact ⟨i + 1, rfl, HB3, ⟨by rw [← HV3.out]; congr 1; omega⟩, by omega⟩
          case measure =>
            show b.length - bcN _ < b.length - bcN _
            simp only [bcN]
            omega
        · have tz : (x != 0) = true := bne_iff_ne.2 hz
          have HV3 : x = r := by rw [← HVV.out, if_neg hz]
          subst HV3
          clear hz
          go_wp2
          go_ret
          exact ⟨rfl, HBA.out.trans (HB3.out.mono HBA.out.size)⟩
      · have hd : decide ((i : Int) < (b.length : Int)) = false := decide_eq_false (by omega)
        have HV3 : r = 0 := by rw [← HV.out, show b.length - i = 0 by omega, cmpFrom]
        subst HV3
        go_wp2
        go_ret
        exact ⟨rfl, HBA.out.trans (HB.out.mono HBA.out.size)⟩
  · have HR2 : Aside0 (cmpFrom a b (a.length - 0) 0 = r) := ⟨by rw [HRR.out, cmpLists, Nat.max_eq_left (by omega), Nat.sub_zero]⟩
    go_enter Try.func52, Try.ntmps52
    go_wp2
    rw [← HWA.out]
    have d0 := (blk_cell H0.out 0).trans rfl
    have d1 := (blk_cell H1.out 0).trans rfl
    go_quiet (fail)
    clear d0 d1
    go_wp2
    go_loopw [16] (fun v16 wr => ∃ i : Nat, v16 = .int .i64 (i : Int) ∧ Aside0 (Below WA.heap.size WA wr) ∧ Aside0 (cmpFrom a b (a.length - i) i = r) ∧ i ≤ a.length) (fun v16 wr => a.length - bcN v16)
    case atStart => exact ⟨0, rfl, ⟨by first | exact Below.refl _ _ | exact pw_below_drewN (Below.refl _ _) _⟩, HR2, by omega⟩
    case round =>
      obtain ⟨i, rfl, HB, HV, hi⟩ := hrel
      by_cases h : i < a.length
      · have hd : decide ((i : Int) < (a.length : Int)) = true := decide_eq_true (by omega)
        have HF1 := Aside0.mk (big_Fetch o A c a i wr (blk_below H0.out HB.out) (Kd.C_below HR.out HB.out) hc)
        go_wp2_with (go_at_call 69; refine HF1.out.mono ?_)
        rintro e W1 ⟨v1, rfl, ha1, hb1⟩
        have HB1 : Aside0 (Below WA.heap.size WA W1) := ⟨HB.out.trans (hb1.mono HB.out.size)⟩
        have HF2 := Aside0.mk (big_Fetch w.heap.size A' c' b i W1 (blk_below H1.out HB1.out) (Kd.C_below HR'.out HB1.out) hc')
        obtain ⟨o1, hvo⟩ : ∃ o, v1 = .pointer (some ⟨o, 0, none⟩) := by obtain ⟨o, A, c, neg, ws, e, _⟩ := ha1; exact ⟨o, e⟩
        subst hvo
        have HA1 := Aside0.mk ha1
        clear hb1 ha1 HF1
        go_wp2_with (go_at_call 69; refine HF2.out.mono ?_)
        rintro e W2 ⟨v2, rfl, ha2, hb2⟩
        have HB2 : Aside0 (Below WA.heap.size WA W2) := ⟨HB1.out.trans (hb2.mono HB1.out.size)⟩
        obtain ⟨o2, hvo⟩ : ∃ o, v2 = .pointer (some ⟨o, 0, none⟩) := by obtain ⟨o, A, c, neg, ws, e, _⟩ := ha2; exact ⟨o, e⟩
        subst hvo
        have HC1 := Aside0.mk (big_Cmp _ _ _ _ W2 (HA1.out.below hb2) ha2)
        clear hb2 ha2 HF2 HA1
        obtain ⟨x, hx⟩ : ∃ x, x = Bn.cmpZ (nth a i) (nth b i) := ⟨_, rfl⟩
        rw [← hx] at HC1
        obtain ⟨d, hdd⟩ : ∃ d, a.length - i = d + 1 := ⟨a.length - i - 1, by omega⟩
        have HVV : Aside0 ((if x = 0 then cmpFrom a b d (i + 1) else x) = r) := ⟨by rw [← HV.out, hdd, cmpFrom, hx]⟩
        go_wp2_with (go_at_call 70; refine HC1.out.mono ?_)
        rintro e W3 ⟨rfl, ⟨q, rfl⟩⟩
        have HB3 : Aside0 (Below WA.heap.size WA (W2.drewN q)) := ⟨pw_below_drewN HB2.out q⟩
        clear hx HC1
        by_cases hz : x = 0
        · have tz : (x != 0) = false := bne_eq_false_iff_eq.2 hz
          have HV3 : Aside0 (cmpFrom a b d (i + 1) = r) := ⟨by rw [← HVV.out, if_pos hz]⟩
          clear hz
          go_wp2
          go_roundw
          case rel => exact ⟨i + 1, rfl, HB3, ⟨by rw [← HV3.out]; congr 1; omega⟩, by omega⟩
          case measure =>
            show a.length - bcN _ < a.length - bcN _
            simp only [bcN]
            omega
        · have tz : (x != 0) = true := bne_iff_ne.2 hz
          have HV3 : x = r := by rw [← HVV.out, if_neg hz]
          subst HV3
          clear hz
          go_wp2
          go_ret
          exact ⟨rfl, HBA.out.trans (HB3.out.mono HBA.out.size)⟩
      · have hd : decide ((i : Int) < (a.length : Int)) = false := decide_eq_false (by omega)
        have HV3 : r = 0 := by rw [← HV.out, show a.length - i = 0 by omega, cmpFrom]
        subst HV3
        go_wp2
        go_ret
        exact ⟨rfl, HBA.out.trans (HB.out.mono HBA.out.size)⟩

end Go.Proofs.Ytcagdmeiigjkcaa.Z
