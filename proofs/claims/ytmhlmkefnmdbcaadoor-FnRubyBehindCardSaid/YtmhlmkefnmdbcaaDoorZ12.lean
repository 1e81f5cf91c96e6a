-- Written by a program of this session (myprint.py).
import Derived.Test.YtmhlmkefnmdbcaaDoorZ0
import Derived.Laws.Runes
import Derived.Test.YtmhlmkefnmdbcaaDoorBy
import Derived.Test.YtmhlmkefnmdbcaaDoorGe
namespace Go.Proofs.YtmhlmkefnmdbcaaDoor.Z
open Go.Proofs.YtmhlmkefnmdbcaaDoor.Gw
open Go.RowKit Go.Proofs.YtmhlmkefnmdbcaaDoorW.PrintWords Go.Proofs.YtmhlmkefnmdbcaaDoorW.PrintLast Go.Proofs.YtmhlmkefnmdbcaaDoorW.PrintMore
attribute [local go_sem high] Go.Proofs.YtmhlmkefnmdbcaaDoor.Ge.gtr_str
attribute [local go_sem] max2_int min2_int max_two min_two max_three min_three max_four min_four   -- for this text's walks alone
set_option linter.unusedVariables false
set_option linter.unusedSimpArgs false

-- PLUGGED laws_decimal: function 26 (a text of this session)
/-- A number's digits. -/
def decB (n : Nat) : List UInt8 := if h : n ≤ 9 then [UInt8.ofNat (48 + n)] else decB (n / 10) ++ [UInt8.ofNat (48 + n % 10)]
def laws_decimal.f (a0 : Int) : Option ByteArray := if 0 ≤ a0 ∧ a0 ≤ 1000000 then some (By.ofL (decB a0.toNat)) else none
theorem decB_one {n : Nat} (h : n ≤ 9) : decB n = [UInt8.ofNat (48 + n)] := by
  rw [decB, dif_pos h]
theorem decB_more {n : Nat} (h : ¬ n ≤ 9) : decB n = decB (n / 10) ++ [UInt8.ofNat (48 + n % 10)] := by
  conv => lhs; rw [decB, dif_neg h]
theorem dec_enc : ∀ d : Nat, d ≤ 9 → Utf8.encode ((48 + d : Nat) : Int) = By.ofL [UInt8.ofNat (48 + d)]
  | 0, _ => by decide
  | 1, _ => by decide
  | 2, _ => by decide
  | 3, _ => by decide
  | 4, _ => by decide
  | 5, _ => by decide
  | 6, _ => by decide
  | 7, _ => by decide
  | 8, _ => by decide
  | 9, _ => by decide
  | d + 10, h => absurd h (by omega)
def decN : Value → Nat
  | .int _ n => n.toNat
  | _ => 0
theorem decB_len : ∀ (k n : Nat), n < 10 ^ (k + 1) → (decB n).length ≤ k + 1
  | 0, n, h => by
    rw [decB_one (by omega)]
    simp
  | k + 1, n, h => by
    by_cases h9 : n ≤ 9
    · rw [decB_one h9]
      simp
    · rw [decB_more h9, List.length_append]
      have := decB_len k (n / 10) (by rw [Nat.pow_succ] at h; omega)
      simp
      omega
set_option maxRecDepth 100000 in
set_option maxHeartbeats 4000000 in
theorem laws_decimal.calls (a0 : Int) (r : ByteArray) (w : World) (h : laws_decimal.f a0 = some r) :
    Calls Tryd.prog 26 #[.int .i64 a0] w fun e w' => e = .returned (.string r) ∧ Below w.heap.size w w' := by
  unfold laws_decimal.f at h
  split at h
  · rename_i hf
    obtain ⟨n, rfl⟩ := Int.eq_ofNat_of_zero_le hf.1
    have hn : n ≤ 1000000 := by omega
    have HR : Aside0 (r = By.ofL (decB n)) := ⟨by have := (Option.some.inj h).symm; rwa [Int.toNat_natCast] at this⟩
    have HL : Aside0 ((decB n).length ≤ 7) := ⟨decB_len 6 n (by omega)⟩
    have hu1 : (Tryd.prog.underlying 3).isSome = true := by rw [Tryd.underlying3]; rfl
    have hu3 : (Tryd.prog.underlying 21).isSome = true := by rw [Tryd.underlying21]; rfl
    have hik : Tryd.prog.intKind 21 = .i32 := by kernel_rfl
    have hu5 : Tryd.prog.underlying 21 = some (.int (Tryd.prog.intKind 21)) := by rw [hik]; exact Tryd.underlying21
    have hcv1 : ∀ (W : World) (n : Int), (convert 3 21 (.int .i64 n)).run Tryd.prog W = .ok (.int .i32 (wrap32 n)) W := fun W n => by
      rw [run_convert_int (P := Tryd.prog) W 3 21 .i64 n hu1 hu5, hik, i32_w]
    have hcv2 : ∀ (W : World) (n : Int), (convert 21 9 (.int .i32 n)).run Tryd.prog W = .ok (.string (Utf8.encode n)) W := fun W n => run_convert_int_string (P := Tryd.prog) W 21 9 .i32 n hu3 Tryd.underlying9
    clear hu1 hu3 hik hu5 h hf
    go_enter Tryd.func26, Tryd.ntmps26
    go_wp2
    go_loopw [0, 3] (fun v0 v3 wr => ∃ (m : Nat) (s : List UInt8), v0 = .int .i64 (m : Int) ∧ v3 = .string (By.ofL s) ∧ m ≤ 1000000 ∧ Aside0 (decB m ++ s = decB n) ∧ Aside0 (Below w.heap.size w wr)) (fun v0 v3 wr => decN v0)
    case atStart => exact ⟨n, [], rfl, rfl, hn, ⟨by simp⟩, ⟨Below.refl _ _⟩⟩
    case round =>
      obtain ⟨m, s, rfl, rfl, hm, HS, HB⟩ := hrel
      have hsl : s.length ≤ 7 := by
        have h1 := congrArg List.length HS.out
        have h2 := HL.out
        rw [List.length_append] at h1
        omega
      have hss : (By.ofL s).size ≤ 7 := by rw [By.ofL_size]; exact hsl
      by_cases h9 : m ≤ 9
      · have b1 : decide (9 < m) = false := decide_eq_false (by omega)
        have b2 : decide ((9 : Int) < (m : Int)) = false := decide_eq_false (by omega)
        have w2 : wrap32 (48 + (m : Int)) = 48 + (m : Int) := by unfold wrap32; omega
        obtain ⟨C, hC⟩ : ∃ C, C = By.ofL [UInt8.ofNat (48 + m)] := ⟨_, rfl⟩
        have he : Utf8.encode (48 + (m : Int)) = C := by rw [hC]; exact dec_enc m h9
        have HE : Aside0 (r = C ++ By.ofL s) := ⟨by rw [HR.out, ← HS.out, decB_one h9, hC, By.ofL_append]⟩
        have hCs : C.size = 1 := by rw [hC]; rfl
        have hsum : ¬ (9223372036854775807 < C.size + (By.ofL s).size) := by omega
        clear h9 hC hCs hsl hss
        go_wp2
        go_ret
        exact ⟨by rw [HE.out]; rfl, HB.out⟩
      · have b1 : decide (9 < m) = true := decide_eq_true (by omega)
        have b2 : decide ((9 : Int) < (m : Int)) = true := decide_eq_true (by omega)
        obtain ⟨q, hq⟩ : ∃ q, q = m / 10 := ⟨_, rfl⟩
        obtain ⟨d, hd⟩ : ∃ d, d = m % 10 := ⟨_, rfl⟩
        have hdm : decB m = decB q ++ [UInt8.ofNat (48 + d)] := by rw [hq, hd]; exact decB_more h9
        have hd9 : d ≤ 9 := by omega
        have r1 : Int.tmod (m : Int) 10 = (d : Int) := by rw [Int.tmod_eq_emod_of_nonneg (by omega)]; omega
        have r2 : Int.tdiv (m : Int) 10 = (q : Int) := by rw [Int.tdiv_eq_ediv_of_nonneg (by omega)]; omega
        have w2 : wrap32 (48 + (d : Int)) = 48 + (d : Int) := by unfold wrap32; omega
        have hq6 : q ≤ 1000000 := by rw [hq]; exact Nat.le_trans (Nat.div_le_self _ _) hm
        obtain ⟨C, hC⟩ : ∃ C, C = By.ofL [UInt8.ofNat (48 + d)] := ⟨_, rfl⟩
        have he : Utf8.encode (48 + (d : Int)) = C := by rw [hC]; exact dec_enc d hd9
        have HE : Aside0 (decB q ++ (UInt8.ofNat (48 + d) :: s) = decB n) := ⟨by rw [← HS.out, hdm, List.append_assoc, List.singleton_append]⟩
        have HD : Aside0 (q < m ∧ q ≤ 1000000) := ⟨by rw [hq]; exact Nat.div_lt_self (Nat.lt_trans (by decide : 0 < 9) (Nat.lt_of_not_le h9)) (by decide), hq6⟩
        have hCs : C.size = 1 := by rw [hC]; rfl
        have hsum : ¬ (9223372036854775807 < C.size + (By.ofL s).size) := by omega
        have HC := Aside0.mk hC
        clear h9 hq hd hdm hC hCs hsl hss
        go_wp2
        go_roundw
        case rel => exact ⟨q, UInt8.ofNat (48 + d) :: s, by go_num, by rw [HC.out, By.ofL_append]; rfl, HD.out.2, HE, HB⟩
        case measure =>
          show decN _ < decN _
          simp only [decN]
          have := HD.out.1
          omega
  · cases h

end Go.Proofs.YtmhlmkefnmdbcaaDoor.Z
