-- Written by a program of this session (myprint.py).
import Derived.Test.YtajglnedoeboaaaDoorZ0
import Derived.Test.YtajglnedoeboaaaDoorGe
namespace Go.Proofs.YtajglnedoeboaaaDoor.Z
open Go.Proofs.YtajglnedoeboaaaDoor.Gw
open Go.RowKit Go.Proofs.YtajglnedoeboaaaDoorW.PrintWords Go.Proofs.YtajglnedoeboaaaDoorW.PrintLast Go.Proofs.YtajglnedoeboaaaDoorW.PrintMore
attribute [local go_sem high] Go.Proofs.YtajglnedoeboaaaDoor.Ge.gtr_str
attribute [local go_sem] max2_int min2_int max_two min_two max_three min_three max_four min_four   -- for this text's walks alone
set_option linter.unusedVariables false
set_option linter.unusedSimpArgs false

/-! ### bigall_beUint32: function 105 -/
def bigall_beUint32.f (l0 : List Int) : Option (Int) := if 3 < (l0.length : Int) then (if 2 < (l0.length : Int) then (if 1 < (l0.length : Int) then (if 0 < (l0.length : Int) then (some (Go.bits .or .u32 (Go.bits .or .u32 (Go.bits .or .u32 ((rd l0 3) % 4294967296) ((((rd l0 2) % 4294967296) * 256) % 4294967296)) ((((rd l0 1) % 4294967296) * 65536) % 4294967296)) ((((rd l0 0) % 4294967296) * 16777216) % 4294967296))) else (none)) else (none)) else (none)) else (none)
set_option maxHeartbeats 8000000 in
set_option maxRecDepth 100000 in
theorem bigall_beUint32.calls (A0 : Option Addr) (c0 : Nat) (l0 : List Int) (r : Int) (w : World) (hr0 : Kd.C (Kd.int .u8) w A0 l0.length l0) (hc0 : l0.length ≤ c0) (h : bigall_beUint32.f l0 = some r) :
  Calls Tryd.prog 105 #[.slice A0 l0.length c0] w fun e w' => e = .returned (.int .u32 r) ∧ Drawn0 w w' := by
 have HR0 := Aside0.mk hr0
 have HC0 := Aside0.mk hc0
 clear hr0 hc0
 have H : (if 3 < (l0.length : Int) then (if 2 < (l0.length : Int) then (if 1 < (l0.length : Int) then (if 0 < (l0.length : Int) then (some (Go.bits .or .u32 (Go.bits .or .u32 (Go.bits .or .u32 ((rd l0 3) % 4294967296) ((((rd l0 2) % 4294967296) * 256) % 4294967296)) ((((rd l0 1) % 4294967296) * 65536) % 4294967296)) ((((rd l0 0) % 4294967296) * 16777216) % 4294967296))) else (none)) else (none)) else (none)) else (none)) = some r := h
 clear h
 by_cases c2 : 3 < (l0.length : Int)
 ·rw [if_pos c2] at H
  have c2b0 : decide (3 < (l0.length : Int)) = true := decide_eq_true c2
  have c2b1 : decide (3 < l0.length) = true := decide_eq_true (by omega)
  clear c2
  by_cases c3 : 2 < (l0.length : Int)
  ·rw [if_pos c3] at H
   have c3b0 : decide (2 < (l0.length : Int)) = true := decide_eq_true c3
   have c3b1 : decide (2 < l0.length) = true := decide_eq_true (by omega)
   clear c3
   by_cases c4 : 1 < (l0.length : Int)
   ·rw [if_pos c4] at H
    have c4b0 : decide (1 < (l0.length : Int)) = true := decide_eq_true c4
    have c4b1 : decide (1 < l0.length) = true := decide_eq_true (by omega)
    clear c4
    by_cases c5 : 0 < (l0.length : Int)
    ·rw [if_pos c5] at H
     have c5b0 : decide (0 < (l0.length : Int)) = true := decide_eq_true c5
     have c5b1 : decide (0 < l0.length) = true := decide_eq_true (by omega)
     clear c5
     obtain rfl := Option.some.inj H
     have p203 : 0 ≤ (3 : Int) := (by omega)
     have q203 : 3 < (l0.length : Int) := of_decide_eq_true (by first | (with_reducible assumption) | assumption)
     obtain ⟨ad203, e203, hx203_0⟩ := Kd.at_int HR0.out 3 p203 q203
     cases e203
     (try simp only [show (3 : Int).toNat = 3 from rfl, Nat.reduceMul, Nat.reduceEqDiff, Go.Addr.add, ↓reduceIte] at hx203_0)
     have qi203 : (3 < l0.length) = True := eq_true (by omega)
     (try rw [show ((3 : Int)).toNat = 3 from rfl] at hx203_0)
     replace p203 := eq_true p203
     replace q203 := eq_true q203
     have p204 : 0 ≤ (3 : Int) := (by omega)
     have q204 : 3 < (l0.length : Int) := of_decide_eq_true (by first | (with_reducible assumption) | assumption)
     obtain ⟨ad204, e204, hx204_0⟩ := Kd.at_int HR0.out 3 p204 q204
     obtain rfl : ad203 = ad204 := (by injection e204)
     (try simp only [show (3 : Int).toNat = 3 from rfl, Nat.reduceMul, Nat.reduceEqDiff, Go.Addr.add, ↓reduceIte] at hx204_0)
     have qi204 : (3 < l0.length) = True := eq_true (by omega)
     (try rw [show ((3 : Int)).toNat = 3 from rfl] at hx204_0)
     replace p204 := eq_true p204
     replace q204 := eq_true q204
     have p205 : 0 ≤ (2 : Int) := (by omega)
     have q205 : 2 < (l0.length : Int) := of_decide_eq_true (by first | (with_reducible assumption) | assumption)
     obtain ⟨ad205, e205, hx205_0⟩ := Kd.at_int HR0.out 2 p205 q205
     obtain rfl : ad203 = ad205 := (by injection e205)
     (try simp only [show (2 : Int).toNat = 2 from rfl, Nat.reduceMul, Nat.reduceEqDiff, Go.Addr.add, ↓reduceIte] at hx205_0)
     have qi205 : (2 < l0.length) = True := eq_true (by omega)
     (try rw [show ((2 : Int)).toNat = 2 from rfl] at hx205_0)
     replace p205 := eq_true p205
     replace q205 := eq_true q205
     have p206 : 0 ≤ (1 : Int) := (by omega)
     have q206 : 1 < (l0.length : Int) := of_decide_eq_true (by first | (with_reducible assumption) | assumption)
     obtain ⟨ad206, e206, hx206_0⟩ := Kd.at_int HR0.out 1 p206 q206
     obtain rfl : ad203 = ad206 := (by injection e206)
     (try simp only [show (1 : Int).toNat = 1 from rfl, Nat.reduceMul, Nat.reduceEqDiff, Go.Addr.add, ↓reduceIte] at hx206_0)
     have qi206 : (1 < l0.length) = True := eq_true (by omega)
     (try rw [show ((1 : Int)).toNat = 1 from rfl] at hx206_0)
     replace p206 := eq_true p206
     replace q206 := eq_true q206
     have p207 : 0 ≤ (0 : Int) := (by omega)
     have q207 : 0 < (l0.length : Int) := of_decide_eq_true (by first | (with_reducible assumption) | assumption)
     obtain ⟨ad207, e207, hx207_0⟩ := Kd.at_int HR0.out 0 p207 q207
     obtain rfl : ad203 = ad207 := (by injection e207)
     have qi207 : (0 < l0.length) = True := eq_true (by omega)
     (try rw [show ((0 : Int)).toNat = 0 from rfl] at hx207_0)
     (try rw [Addr.add_zero'] at hx207_0)
     replace p207 := eq_true p207
     replace q207 := eq_true q207
     go_enter Tryd.func105, Tryd.ntmps105
     go_wp2
     repeat (go_quiet (fail); try go_wp2)
     go_ret
     exact ⟨by first | rfl | (simp; done) | (simp [*]; done), by repeat (first | exact Drawn0.refl _ | apply Drawn0.step)⟩
    ·rw [if_neg c5] at H
     exact absurd H (by simp)
   ·rw [if_neg c4] at H
    exact absurd H (by simp)
  ·rw [if_neg c3] at H
   exact absurd H (by simp)
 ·rw [if_neg c2] at H
  exact absurd H (by simp)

/-! ### bigall_beUint64: function 104 -/
def bigall_beUint64.f (l0 : List Int) : Option (Int) := if 7 < (l0.length : Int) then ((bigall_beUint32.f l0).bind fun t209 => (if 4 ≤ (l0.length : Int) then ((bigall_beUint32.f (l0.drop 4)).bind fun t211 => (some (Go.bits .or .u64 (IntKind.u64.wrap ((IntKind.u64.wrap (t209)) * 4294967296)) (IntKind.u64.wrap (t211))))) else (none))) else (none)
set_option maxHeartbeats 8000000 in
set_option maxRecDepth 100000 in
theorem bigall_beUint64.calls (A0 : Option Addr) (c0 : Nat) (l0 : List Int) (r : Int) (w : World) (hr0 : Kd.C (Kd.int .u8) w A0 l0.length l0) (hc0 : l0.length ≤ c0) (h : bigall_beUint64.f l0 = some r) :
  Calls Tryd.prog 104 #[.slice A0 l0.length c0] w fun e w' => e = .returned (.int .u64 r) ∧ Drawn0 w w' := by
 have HR0 := Aside0.mk hr0
 have HC0 := Aside0.mk hc0
 clear hr0 hc0
 have H : (if 7 < (l0.length : Int) then ((bigall_beUint32.f l0).bind fun t209 => (if 4 ≤ (l0.length : Int) then ((bigall_beUint32.f (l0.drop 4)).bind fun t211 => (some (Go.bits .or .u64 (IntKind.u64.wrap ((IntKind.u64.wrap (t209)) * 4294967296)) (IntKind.u64.wrap (t211))))) else (none))) else (none)) = some r := h
 clear h
 by_cases c2 : 7 < (l0.length : Int)
 ·rw [if_pos c2] at H
  have c2b0 : decide (7 < (l0.length : Int)) = true := decide_eq_true c2
  have c2b1 : decide (7 < l0.length) = true := decide_eq_true (by omega)
  clear c2
  replace H := Option.bind_eq_some_iff.mp H
  obtain ⟨t209, A30, H⟩ := H
  replace H : (if 4 ≤ (l0.length : Int) then ((bigall_beUint32.f (l0.drop 4)).bind fun t211 => (some (Go.bits .or .u64 (IntKind.u64.wrap ((IntKind.u64.wrap (t209)) * 4294967296)) (IntKind.u64.wrap (t211))))) else (none)) = some r := H
  have A3 := Aside0.mk A30
  clear A30
  by_cases c4 : 4 ≤ (l0.length : Int)
  ·rw [if_pos c4] at H
   have c4b0 := eq_true c4
   have c4b1 : decide (4 ≤ (l0.length : Int)) = true := decide_eq_true c4
   clear c4
   replace H := Option.bind_eq_some_iff.mp H
   obtain ⟨t211, A50, H⟩ := H
   replace H : (some (Go.bits .or .u64 (IntKind.u64.wrap ((IntKind.u64.wrap (t209)) * 4294967296)) (IntKind.u64.wrap (t211)))) = some r := H
   have A5 := Aside0.mk A50
   clear A50
   obtain rfl := Option.some.inj H
   have p208 : 0 ≤ (7 : Int) := (by omega)
   have q208 : 7 < (l0.length : Int) := of_decide_eq_true (by first | (with_reducible assumption) | assumption)
   obtain ⟨ad208, e208, hx208_0⟩ := Kd.at_int HR0.out 7 p208 q208
   cases e208
   (try simp only [show (7 : Int).toNat = 7 from rfl, Nat.reduceMul, Nat.reduceEqDiff, Go.Addr.add, ↓reduceIte] at hx208_0)
   have qi208 : (7 < l0.length) = True := eq_true (by omega)
   (try rw [show ((7 : Int)).toNat = 7 from rfl] at hx208_0)
   replace p208 := eq_true p208
   replace q208 := eq_true q208
   go_enter Tryd.func104, Tryd.ntmps104
   go_wp2_with (first | (go_at_call 105; (with_reducible refine (bigall_beUint32.calls _ _ l0 t209 _ ?side1 ?side2 A3.out).mono ?_); (case side1 => repeat (first | exact HR0.out | (with_reducible refine Kd.C_alloc ?_ _) | (with_reducible refine Kd.C_drewN ?_ _) | (with_reducible refine Kd.C_drew ?_))); (case side2 => exact HC0.out); rintro e w' ⟨rfl, ⟨nd, rfl⟩⟩; (try first | exact ⟨rfl, _, World.drewN_drewN _ _ _⟩ | exact ⟨rfl, _, Eq.trans (World.drewN_drewN _ _ _) (congrArg (World.drewN _) (Nat.add_assoc _ _ _))⟩); obtain ⟨i06, hi06, _, hsz6, _⟩ := info_parts info5; obtain ⟨A6, hcut6, hA6, hC6⟩ := print_drop_of (P := Tryd.prog) (Value.int .u8) 0 64 5 .i64 Tryd.underlying64 hi06 hsz6 (some ad208) c0 l0 4 (by omega) (of_decide_eq_true (by first | (with_reducible assumption) | assumption)) HC0.out; have HR210 := Aside0.mk (Kd.C_of_reads (h1 := fun _ => rfl) (hA6 _ (Kd.reads_of_C HR0.out))); have HC210 := Aside0.mk hC6; clear hA6 hC6 hi06 hsz6) | (go_at_call 105; refine calls_of_args (args' := #[.slice A6 (l0.drop 4).length (c0 - 4)]) (by first | (rw [show (l0.drop 4).length = (l0.length - 4) from List.length_drop] <;> rfl) | (simp only [List.length_take, List.length_drop]; done) | rfl) ?_; (with_reducible refine (bigall_beUint32.calls _ _ (l0.drop 4) t211 _ ?side1 ?side2 A5.out).mono ?_); (case side1 => repeat (first | exact HR210.out | (with_reducible refine Kd.C_alloc ?_ _) | (with_reducible refine Kd.C_drewN ?_ _) | (with_reducible refine Kd.C_drew ?_))); (case side2 => exact HC210.out); rintro e w' ⟨rfl, ⟨nd, rfl⟩⟩; (try first | exact ⟨rfl, _, World.drewN_drewN _ _ _⟩ | exact ⟨rfl, _, Eq.trans (World.drewN_drewN _ _ _) (congrArg (World.drewN _) (Nat.add_assoc _ _ _))⟩)))
   repeat (go_quiet (first | (go_at_call 105; (with_reducible refine (bigall_beUint32.calls _ _ l0 t209 _ ?side1 ?side2 A3.out).mono ?_); (case side1 => repeat (first | exact HR0.out | (with_reducible refine Kd.C_alloc ?_ _) | (with_reducible refine Kd.C_drewN ?_ _) | (with_reducible refine Kd.C_drew ?_))); (case side2 => exact HC0.out); rintro e w' ⟨rfl, ⟨nd, rfl⟩⟩; (try first | exact ⟨rfl, _, World.drewN_drewN _ _ _⟩ | exact ⟨rfl, _, Eq.trans (World.drewN_drewN _ _ _) (congrArg (World.drewN _) (Nat.add_assoc _ _ _))⟩); obtain ⟨i06, hi06, _, hsz6, _⟩ := info_parts info5; obtain ⟨A6, hcut6, hA6, hC6⟩ := print_drop_of (P := Tryd.prog) (Value.int .u8) 0 64 5 .i64 Tryd.underlying64 hi06 hsz6 (some ad208) c0 l0 4 (by omega) (of_decide_eq_true (by first | (with_reducible assumption) | assumption)) HC0.out; have HR210 := Aside0.mk (Kd.C_of_reads (h1 := fun _ => rfl) (hA6 _ (Kd.reads_of_C HR0.out))); have HC210 := Aside0.mk hC6; clear hA6 hC6 hi06 hsz6) | (go_at_call 105; refine calls_of_args (args' := #[.slice A6 (l0.drop 4).length (c0 - 4)]) (by first | (rw [show (l0.drop 4).length = (l0.length - 4) from List.length_drop] <;> rfl) | (simp only [List.length_take, List.length_drop]; done) | rfl) ?_; (with_reducible refine (bigall_beUint32.calls _ _ (l0.drop 4) t211 _ ?side1 ?side2 A5.out).mono ?_); (case side1 => repeat (first | exact HR210.out | (with_reducible refine Kd.C_alloc ?_ _) | (with_reducible refine Kd.C_drewN ?_ _) | (with_reducible refine Kd.C_drew ?_))); (case side2 => exact HC210.out); rintro e w' ⟨rfl, ⟨nd, rfl⟩⟩; (try first | exact ⟨rfl, _, World.drewN_drewN _ _ _⟩ | exact ⟨rfl, _, Eq.trans (World.drewN_drewN _ _ _) (congrArg (World.drewN _) (Nat.add_assoc _ _ _))⟩))); try go_wp2_with (first | (go_at_call 105; (with_reducible refine (bigall_beUint32.calls _ _ l0 t209 _ ?side1 ?side2 A3.out).mono ?_); (case side1 => repeat (first | exact HR0.out | (with_reducible refine Kd.C_alloc ?_ _) | (with_reducible refine Kd.C_drewN ?_ _) | (with_reducible refine Kd.C_drew ?_))); (case side2 => exact HC0.out); rintro e w' ⟨rfl, ⟨nd, rfl⟩⟩; (try first | exact ⟨rfl, _, World.drewN_drewN _ _ _⟩ | exact ⟨rfl, _, Eq.trans (World.drewN_drewN _ _ _) (congrArg (World.drewN _) (Nat.add_assoc _ _ _))⟩); obtain ⟨i06, hi06, _, hsz6, _⟩ := info_parts info5; obtain ⟨A6, hcut6, hA6, hC6⟩ := print_drop_of (P := Tryd.prog) (Value.int .u8) 0 64 5 .i64 Tryd.underlying64 hi06 hsz6 (some ad208) c0 l0 4 (by omega) (of_decide_eq_true (by first | (with_reducible assumption) | assumption)) HC0.out; have HR210 := Aside0.mk (Kd.C_of_reads (h1 := fun _ => rfl) (hA6 _ (Kd.reads_of_C HR0.out))); have HC210 := Aside0.mk hC6; clear hA6 hC6 hi06 hsz6) | (go_at_call 105; refine calls_of_args (args' := #[.slice A6 (l0.drop 4).length (c0 - 4)]) (by first | (rw [show (l0.drop 4).length = (l0.length - 4) from List.length_drop] <;> rfl) | (simp only [List.length_take, List.length_drop]; done) | rfl) ?_; (with_reducible refine (bigall_beUint32.calls _ _ (l0.drop 4) t211 _ ?side1 ?side2 A5.out).mono ?_); (case side1 => repeat (first | exact HR210.out | (with_reducible refine Kd.C_alloc ?_ _) | (with_reducible refine Kd.C_drewN ?_ _) | (with_reducible refine Kd.C_drew ?_))); (case side2 => exact HC210.out); rintro e w' ⟨rfl, ⟨nd, rfl⟩⟩; (try first | exact ⟨rfl, _, World.drewN_drewN _ _ _⟩ | exact ⟨rfl, _, Eq.trans (World.drewN_drewN _ _ _) (congrArg (World.drewN _) (Nat.add_assoc _ _ _))⟩))))
   go_ret
   exact ⟨by first | rfl | (simp; done) | (simp [*]; done), by repeat (first | exact Drawn0.refl _ | apply Drawn0.step)⟩
  ·rw [if_neg c4] at H
   exact absurd H (by simp)
 ·rw [if_neg c2] at H
  exact absurd H (by simp)

/-! ### bigall_bigEndianWord: function 96 -/
def bigall_bigEndianWord.f (l0 : List Int) : Option (Int) := (bigall_beUint64.f l0).bind fun t212 => (some t212)
set_option maxHeartbeats 8000000 in
set_option maxRecDepth 100000 in
theorem bigall_bigEndianWord.calls (A0 : Option Addr) (c0 : Nat) (l0 : List Int) (r : Int) (w : World) (hr0 : Kd.C (Kd.int .u8) w A0 l0.length l0) (hc0 : l0.length ≤ c0) (h : bigall_bigEndianWord.f l0 = some r) :
  Calls Tryd.prog 96 #[.slice A0 l0.length c0] w fun e w' => e = .returned (.int .u64 r) ∧ Drawn0 w w' := by
 have HR0 := Aside0.mk hr0
 have HC0 := Aside0.mk hc0
 clear hr0 hc0
 have H : ((bigall_beUint64.f l0).bind fun t212 => (some t212)) = some r := h
 clear h
 replace H := Option.bind_eq_some_iff.mp H
 obtain ⟨t212, A20, H⟩ := H
 replace H : (some t212) = some r := H
 have A2 := Aside0.mk A20
 clear A20
 obtain rfl := Option.some.inj H
 go_enter Tryd.func96, Tryd.ntmps96
 go_wp2_with (first | ((with_reducible refine gate_callee (f := 104) rfl ?_); refine goesL_ (some 4) rfl rfl Tryd.func104 (by kernel_rfl) rfl #[.slice A0 l0.length c0] rfl (by (try simp only [List.map_toArray, List.map_cons, List.map_nil]); first | done | rfl | (simp only [List.length_drop, List.length_take]; rfl)) ?_; (with_reducible refine (bigall_beUint64.calls _ _ l0 t212 _ ?side1 ?side2 A2.out).mono ?_); (case side1 => repeat (first | exact HR0.out | (with_reducible refine Kd.C_alloc ?_ _) | (with_reducible refine Kd.C_drewN ?_ _) | (with_reducible refine Kd.C_drew ?_))); (case side2 => exact HC0.out); rintro e w' ⟨rfl, ⟨nd, rfl⟩⟩; refine ⟨_, rfl, ?_⟩))
 go_ret
 exact ⟨by first | rfl | (simp; done) | (simp [*]; done), by repeat (first | exact Drawn0.refl _ | apply Drawn0.step)⟩

end Go.Proofs.YtajglnedoeboaaaDoor.Z
