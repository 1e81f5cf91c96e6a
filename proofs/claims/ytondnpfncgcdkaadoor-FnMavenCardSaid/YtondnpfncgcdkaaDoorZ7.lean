-- Written by a program of this session (myprint.py).
import Derived.Test.YtondnpfncgcdkaaDoorZ0
import Derived.Test.YtondnpfncgcdkaaDoorZ3
import Derived.Test.YtondnpfncgcdkaaDoorZ5
import Derived.Test.YtondnpfncgcdkaaDoorZ6
import Derived.Test.YtondnpfncgcdkaaDoorSsC
import Derived.Test.YtondnpfncgcdkaaDoorBn
import Derived.BigQuiet
import Derived.Deep.QuietTactic
import Derived.Test.YtondnpfncgcdkaaDoorGe
namespace Go.Proofs.YtondnpfncgcdkaaDoor.Z
open Go.Proofs.YtondnpfncgcdkaaDoor.Gw
open Go.RowKit Go.Proofs.YtondnpfncgcdkaaDoorW.PrintWords Go.Proofs.YtondnpfncgcdkaaDoorW.PrintLast Go.Proofs.YtondnpfncgcdkaaDoorW.PrintMore
attribute [local go_sem high] Go.Proofs.YtondnpfncgcdkaaDoor.Ge.gtr_str
attribute [local go_sem] max2_int min2_int max_two min_two max_three min_three max_four min_four   -- for this text's walks alone
set_option linter.unusedVariables false
set_option linter.unusedSimpArgs false

-- PLUGGED impl_TokenLess: function 9 (a text of this session)
attribute [local go_sem] Ss.EV
theorem tk_cell {W W' : World} {a : Addr} {v : Value} (hb : Below W.heap.size W W') (h : W.cell? a = some v) : W'.cell? a = some v := (hb.cell (World.block_lt_of_cell? W _ h)).trans h
/-- A token lies in a block. -/
structure TokAt (w : World) (b : Nat) (p v : ByteArray) (n : Bool) : Prop where
  c0 : w.cell? ⟨b, 0, none⟩ = some (.string p)
  c1 : w.cell? ⟨b, 1, none⟩ = some (.string v)
  c2 : w.cell? ⟨b, 2, none⟩ = some (.bool n)
theorem TokAt.below {w w' : World} {b : Nat} {p v : ByteArray} {n : Bool} (h : TokAt w b p v n) (hb : Below w.heap.size w w') : TokAt w' b p v n := ⟨tk_cell hb h.c0, tk_cell hb h.c1, tk_cell hb h.c2⟩
theorem TokAt.of_block {w : World} {b : Nat} {p v : ByteArray} {n : Bool} {t : TypeId} (h : w.heap[b]? = some (.cells #[.string p, .string v, .bool n] t (0, 0))) : TokAt w b p v n := ⟨(blk_cell h 0).trans rfl, (blk_cell h 1).trans rfl, (blk_cell h 2).trans rfl⟩
/-- Where a token stands among those of unlike prefixes. -/
def qoT (p v : ByteArray) : Option Int := if p.toList = [45] then some (if (Ss.cvt v).isSome = true then 2 else 1) else if p.toList = [46] then some (if (Ss.cvt v).isSome = true then 3 else 0) else none
def QoP (p v : ByteArray) (w : World) (e : Ending) (w' : World) : Prop := Below w.heap.size w w' ∧ ((qoT p v = none ∧ ∃ a, e = .returned (.tuple #[.int .i64 0, Ss.EV a])) ∨ ∃ x, qoT p v = some x ∧ e = .returned (.tuple #[.int .i64 x, .nilIface]))
theorem gw_err {w : World} (h : GW w) : ∃ a, ∀ W, Below w.heap.size w W → W.cell? ⟨Gw.gIV, 0, none⟩ = some (Ss.EV a) := by
  obtain ⟨⟨a, a2, a3, h1, h2, h3⟩, _⟩ := h
  exact ⟨a3, fun W hB => h3.below hB⟩
set_option maxRecDepth 100000 in
set_option maxHeartbeats 4000000 in
theorem tk_order (b : Nat) (p v : ByteArray) (n : Bool) (w : World) (hT : TokAt w b p v n) (hs : v.size ≤ 1000000) (hG : GW w) :
    Calls Tryd.prog 56 #[.pointer (some ⟨b, 0, none⟩)] w (QoP p v w) := by
  have hC := Aside0.mk (Ss.ss_convert v w hs hG.1)
  have hk : Aside0 (∀ W, Below w.heap.size w W → W.cell? ⟨b, 0, none⟩ = some (.string p)) := ⟨fun W h => (hT.below h).c0⟩
  obtain ⟨a, ha⟩ := gw_err hG
  have HE := Aside0.mk ha
  have c0 := hT.c0
  have c1 := hT.c1
  have c2 := hT.c2
  have hu := Tryd.underlying70
  clear hT hs hG ha
  rcases Decidable.em (p.toList = [45]) with e1 | e1
  · have b1 : (p.toList == [45]) = true := beq_iff_eq.2 e1
    have HQ : Aside0 (qoT p v = some (if (Ss.cvt v).isSome = true then 2 else 1)) := ⟨if_pos e1⟩
    clear e1
    go_enter Tryd.func56, Tryd.ntmps56
    go_wp2_with (go_at_call 45; (with_reducible refine (hC.out).mono ?_))
    rintro e W1 ⟨hB, h1⟩
    have q0 := hk.out W1 hB
    have qe := HE.out W1 hB
    have HB := Aside0.mk hB
    clear hB hC hk
    rcases h1 with ⟨hn, a2, rfl⟩ | ⟨z, o, hz, rfl, hO⟩
    · have HN := Aside0.mk hn
      clear hn c0
      go_wp2
      go_ret2
      exact ⟨HB.out, .inr ⟨_, by rw [HQ.out, HN.out]; rfl, rfl⟩⟩
    · have HN := Aside0.mk hz
      clear hz hO c0
      go_wp2
      go_ret2
      exact ⟨HB.out, .inr ⟨_, by rw [HQ.out, HN.out]; rfl, rfl⟩⟩
  · have b1 : (p.toList == [45]) = false := beq_eq_false_iff_ne.2 e1
    rcases Decidable.em (p.toList = [46]) with e2 | e2
    · have b2 : (p.toList == [46]) = true := beq_iff_eq.2 e2
      have HQ : Aside0 (qoT p v = some (if (Ss.cvt v).isSome = true then 3 else 0)) := ⟨by unfold qoT; rw [if_neg e1, if_pos e2]⟩
      clear e1 e2
      go_enter Tryd.func56, Tryd.ntmps56
      go_wp2_with (go_at_call 45; (with_reducible refine (hC.out).mono ?_))
      rintro e W1 ⟨hB, h1⟩
      have q0 := hk.out W1 hB
      have qe := HE.out W1 hB
      have HB := Aside0.mk hB
      clear hB hC hk
      rcases h1 with ⟨hn, a2, rfl⟩ | ⟨z, o, hz, rfl, hO⟩
      · have HN := Aside0.mk hn
        clear hn c0
        go_wp2
        go_ret2
        exact ⟨HB.out, .inr ⟨_, by rw [HQ.out, HN.out]; rfl, rfl⟩⟩
      · have HN := Aside0.mk hz
        clear hz hO c0
        go_wp2
        go_ret2
        exact ⟨HB.out, .inr ⟨_, by rw [HQ.out, HN.out]; rfl, rfl⟩⟩
    · have b2 : (p.toList == [46]) = false := beq_eq_false_iff_ne.2 e2
      have HQ : Aside0 (qoT p v = none) := ⟨by unfold qoT; rw [if_neg e1, if_neg e2]⟩
      clear e1 e2
      go_enter Tryd.func56, Tryd.ntmps56
      go_wp2_with (go_at_call 45; (with_reducible refine (hC.out).mono ?_))
      rintro e W1 ⟨hB, h1⟩
      have q0 := hk.out W1 hB
      have qe := HE.out W1 hB
      have HB := Aside0.mk hB
      clear hB hC hk
      rcases h1 with ⟨hn, a2, rfl⟩ | ⟨z, o, hz, rfl, hO⟩
      · have HN := Aside0.mk hn
        clear hn c0
        go_wp2
        go_quiet (fail)
        go_wp2
        go_ret2
        exact ⟨pw_below_drewN HB.out _, .inl ⟨HQ.out, _, rfl⟩⟩
      · have HN := Aside0.mk hz
        clear hz hO c0
        go_wp2
        go_quiet (fail)
        go_wp2
        go_ret2
        exact ⟨pw_below_drewN HB.out _, .inl ⟨HQ.out, _, rfl⟩⟩
/-- A token's place is below another one's. -/
def ltQ (p v q u : ByteArray) : Option Bool := (qoT p v).bind fun x => (qoT q u).bind fun y => some (decide (x < y))
def TlP (r : Option Bool) (w : World) (e : Ending) (w' : World) : Prop := Below w.heap.size w w' ∧ ((r = none ∧ ∃ a, e = .returned (.tuple #[.bool false, Ss.EV a])) ∨ ∃ x, r = some x ∧ e = .returned (.tuple #[.bool x, .nilIface]))
set_option maxRecDepth 100000 in
set_option maxHeartbeats 4000000 in
theorem tk_less_q (b : Nat) (p v : ByteArray) (n : Bool) (q u : ByteArray) (m : Bool) (w : World) (hT : TokAt w b p v n) (hs : v.size ≤ 1000000) (hs' : u.size ≤ 1000000) (hG : GW w) :
    Calls Tryd.prog 48 #[.pointer (some ⟨b, 0, none⟩), .agg #[.string q, .string u, .bool m]] w (TlP (ltQ p v q u) w) := by
  obtain ⟨WA, hWA⟩ : ∃ WA, WA = w.alloc (.cells #[.string q, .string u, .bool m] 70) := ⟨_, rfl⟩
  have hBA : Below w.heap.size w WA := by rw [hWA]; exact (Below.refl _ _).alloc (Nat.le_refl _) _
  have hA : WA.heap[w.heap.size]? = some (.cells #[.string q, .string u, .bool m] 70 (0, 0)) := by rw [hWA]; exact blk_new w _
  have h1 := Aside0.mk (tk_order b p v n WA (hT.below hBA) hs (GW.below hG hBA))
  have h2 : Aside0 (∀ W, Below WA.heap.size WA W → Calls Tryd.prog 56 #[.pointer (some ⟨w.heap.size, 0, none⟩)] W (QoP q u W)) := ⟨fun W hB => tk_order w.heap.size q u m W ((TokAt.of_block hA).below hB) hs' (GW.below (GW.below hG hBA) hB)⟩
  have HA := Aside0.mk hBA
  have HW := Aside0.mk hWA
  clear hT hs hs' hG hBA hA hWA
  go_enter Tryd.func48, Tryd.ntmps48
  go_wp2_with (go_at_call 56; rw [← HW.out]; (with_reducible refine (h1.out).mono ?_))
  rintro e W1 ⟨hB, hr⟩
  have h3 := Aside0.mk (h2.out W1 hB)
  have HB1 : Aside0 (Below w.heap.size w W1) := ⟨HA.out.trans (hB.mono HA.out.size)⟩
  clear hB h1 h2 HA HW
  rcases hr with ⟨hn, a, rfl⟩ | ⟨x, hx, rfl⟩
  · have HN : Aside0 (ltQ p v q u = none) := ⟨by unfold ltQ; rw [hn]; rfl⟩
    clear hn
    go_wp2
    go_ret2
    exact ⟨HB1.out, .inl ⟨HN.out, _, rfl⟩⟩
  · have HX := Aside0.mk hx
    clear hx
    go_wp2_with (go_at_call 56; (with_reducible refine (h3.out).mono ?_))
    rintro e W2 ⟨hB2, hr2⟩
    have HB2 : Aside0 (Below w.heap.size w W2) := ⟨HB1.out.trans (hB2.mono HB1.out.size)⟩
    clear hB2 h3
    rcases hr2 with ⟨hn, a, rfl⟩ | ⟨y, hy, rfl⟩
    · have HN : Aside0 (ltQ p v q u = none) := ⟨by unfold ltQ; rw [HX.out, hn]; rfl⟩
      clear hn
      go_wp2
      go_ret2
      exact ⟨HB2.out, .inl ⟨HN.out, _, rfl⟩⟩
    · have HN : Aside0 (ltQ p v q u = some (decide (x < y))) := ⟨by unfold ltQ; rw [HX.out, hy]; rfl⟩
      clear hy
      go_wp2
      go_ret2
      exact ⟨HB2.out, .inr ⟨_, HN.out, rfl⟩⟩
def kwI (s : ByteArray) : Int := kwFrom s Gw.kws 0
/-- Two words: by their places, two unknown ones by their bytes. -/
def kwL (v u : ByteArray) : Bool := if kwI v = 7 ∧ kwI u = 7 then Op.bytesLess v.toList u.toList else decide (kwI v < kwI u)
def tkLess (p v : ByteArray) (n : Bool) (q u : ByteArray) (m : Bool) : Option Bool :=
  if p.toList = q.toList then
    match Ss.cvt v, Ss.cvt u with
    | some x, some y => some (Bn.cmpZ x y == -1)
    | some _, none => if n = true then some (kwL v u) else some false
    | none, some _ => if m = true then some (kwL v u) else some true
    | none, none => some (kwL v u)
  else ltQ p v q u
theorem kw_calls (s : ByteArray) (w : World) (hG : GW w) : Calls Tryd.prog 47 #[.string s] w fun e w' => e = .returned (.int .i64 (kwI s)) ∧ Drawn0 w w' := semantic_findKeywordOrder.calls s (kwI s) w hG rfl
theorem gw_kw {w : World} (h : GW w) : ∃ a c, ∀ W, Below w.heap.size w W → W.cell? ⟨0, 0, none⟩ = some (.slice (some a) 7 c) := by
  obtain ⟨_, a, c, h1, _⟩ := h
  exact ⟨a, c, fun W hB => tk_cell hB h1⟩
set_option maxRecDepth 100000 in
set_option maxHeartbeats 8000000 in
theorem tk_less (b : Nat) (p v : ByteArray) (n : Bool) (q u : ByteArray) (m : Bool) (w : World) (hT : TokAt w b p v n) (hs : v.size ≤ 1000000) (hs' : u.size ≤ 1000000) (hG : GW w) :
    Calls Tryd.prog 35 #[.pointer (some ⟨b, 0, none⟩), .agg #[.string q, .string u, .bool m]] w (TlP (tkLess p v n q u m) w) := by
  obtain ⟨WA, hWA⟩ : ∃ WA, WA = w.alloc (.cells #[.string q, .string u, .bool m] 70) := ⟨_, rfl⟩
  have hBA : Below w.heap.size w WA := by rw [hWA]; exact (Below.refl _ _).alloc (Nat.le_refl _) _
  have hA : WA.heap[w.heap.size]? = some (.cells #[.string q, .string u, .bool m] 70 (0, 0)) := by rw [hWA]; exact blk_new w _
  have hGA := GW.below hG hBA
  have hTA := hT.below hBA
  have hUA : TokAt WA w.heap.size q u m := TokAt.of_block hA
  have hCV : Aside0 (∀ W, Below WA.heap.size WA W → Calls Tryd.prog 45 #[.string v] W (Ss.CvP v W)) := ⟨fun W hB => Ss.ss_convert v W hs (GW.below hGA hB).1⟩
  have hCU : Aside0 (∀ W, Below WA.heap.size WA W → Calls Tryd.prog 45 #[.string u] W (Ss.CvP u W)) := ⟨fun W hB => Ss.ss_convert u W hs' (GW.below hGA hB).1⟩
  have hQ : Aside0 (∀ W, Below WA.heap.size WA W → Calls Tryd.prog 48 #[.pointer (some ⟨b, 0, none⟩), .agg #[.string q, .string u, .bool m]] W (TlP (ltQ p v q u) W)) := ⟨fun W hB => tk_less_q b p v n q u m W (hTA.below hB) hs hs' (GW.below hGA hB)⟩
  have hKV : Aside0 (∀ W, Below WA.heap.size WA W → Calls Tryd.prog 47 #[.string v] W fun e w' => e = .returned (.int .i64 (kwI v)) ∧ Drawn0 W w') := ⟨fun W hB => kw_calls v W (GW.below hGA hB)⟩
  have hKU : Aside0 (∀ W, Below WA.heap.size WA W → Calls Tryd.prog 47 #[.string u] W fun e w' => e = .returned (.int .i64 (kwI u)) ∧ Drawn0 W w') := ⟨fun W hB => kw_calls u W (GW.below hGA hB)⟩
  have hk : Aside0 (∀ W, Below WA.heap.size WA W → TokAt W b p v n ∧ TokAt W w.heap.size q u m) := ⟨fun W hB => ⟨hTA.below hB, hUA.below hB⟩⟩
  obtain ⟨ka, kc, hkw⟩ := gw_kw hGA
  have hKW := Aside0.mk hkw
  have HA := Aside0.mk hBA
  have HW := Aside0.mk hWA
  have hu := Tryd.underlying70
  obtain ⟨c0, c1, c2⟩ := hTA
  obtain ⟨d0, d1, d2⟩ := hUA
  have HKL : Aside0 (kwL v u = if kwI v = 7 ∧ kwI u = 7 then Op.bytesLess v.toList u.toList else decide (kwI v < kwI u)) := ⟨rfl⟩
  obtain ⟨kv, hkv⟩ : ∃ k, k = kwI v := ⟨_, rfl⟩
  obtain ⟨ku, hku⟩ : ∃ k, k = kwI u := ⟨_, rfl⟩
  rw [← hkv] at hKV HKL
  rw [← hku] at hKU HKL
  clear hT hs hs' hG hGA hBA hA hWA hkw hkv hku
  rcases Decidable.em (p.toList = q.toList) with e1 | e1
  · have b1 : (p.toList == q.toList) = true := beq_iff_eq.2 e1
    have HE1 := Aside0.mk e1
    clear e1 hQ
    go_enter Tryd.func35, Tryd.ntmps35
    rw [HW.out] at c0 c1 c2 d0 d1 d2
    go_wp2
    go_quiet (fail)
    go_wp2_with (go_at_call 45; rw [← HW.out]; (with_reducible refine (hCV.out _ (by first | exact pw_below_drewN (Below.refl _ _) _ | exact Below.refl _ _)).mono ?_))
    rintro e W1 ⟨hB, h1⟩
    replace hB : Below WA.heap.size WA W1 := (pw_below_drewN (Below.refl _ WA) _).trans (hB.mono (pw_below_drewN (Below.refl WA.heap.size WA) _).size)
    obtain ⟨⟨x0, x1, x2⟩, y0, y1, y2⟩ := hk.out W1 hB
    have HBA := Aside0.mk hB
    have hC2 := Aside0.mk (hCU.out W1 hB)
    clear hB hCV hCU c0 c1 c2 d0 d1 d2
    rcases h1 with ⟨hn, a1, rfl⟩ | ⟨z, o, hz, rfl, hO⟩
    · have HV := Aside0.mk hn
      clear hn
      go_wp2_with (go_at_call 45; (with_reducible refine (hC2.out).mono ?_))
      rintro e W2 ⟨hB2, h2⟩
      have HB2 := Aside0.mk hB2
      have hBW : Below WA.heap.size WA W2 := HBA.out.trans (hB2.mono HBA.out.size)
      obtain ⟨⟨x0, x1, x2⟩, y0, y1, y2⟩ := hk.out W2 hBW
      have HB : Aside0 (Below w.heap.size w W2) := ⟨HA.out.trans (hBW.mono HA.out.size)⟩
      have hKV1 := Aside0.mk (hKV.out W2 hBW)
      have HBW := Aside0.mk hBW
      clear hB2 hBW hKV hC2
      rcases h2 with ⟨hn, a2, rfl⟩ | ⟨z2, o2, hz2, rfl, hO2⟩
      · have HL : Aside0 (tkLess p v n q u m = some (kwL v u)) := ⟨by unfold tkLess; rw [if_pos HE1.out, HV.out, hn]⟩
        clear hn
        go_wp2_with (go_at_call 47; (with_reducible refine (hKV1.out).mono ?_))
        rintro e W3 ⟨rfl, hD3⟩
        have hB3 : Below WA.heap.size WA W3 := HBW.out.trans (hD3.below.mono HBW.out.size)
        obtain ⟨⟨x0, x1, x2⟩, y0, y1, y2⟩ := hk.out W3 hB3
        have hKU1 := Aside0.mk (hKU.out W3 hB3)
        have HB3 := Aside0.mk hB3
        clear hD3 hB3 hKV1 hKU
        go_wp2_with (go_at_call 47; (with_reducible refine (hKU1.out).mono ?_))
        rintro e W4 ⟨rfl, hD4⟩
        have hB4 : Below WA.heap.size WA W4 := HB3.out.trans (hD4.below.mono HB3.out.size)
        obtain ⟨⟨x0, x1, x2⟩, y0, y1, y2⟩ := hk.out W4 hB4
        have kw := hKW.out W4 hB4
        have HB4 : Aside0 (Below w.heap.size w W4) := ⟨HA.out.trans (hB4.mono HA.out.size)⟩
        clear hD4 hB4 hKU1 hKW hk HB HB2 HB3 HBA HBW
        rcases Decidable.em (kv = 7) with rfl | g1
        · rcases Decidable.em (ku = 7) with rfl | g2
          · have HF : Aside0 (kwL v u = Op.bytesLess v.toList u.toList) := ⟨by rw [HKL.out, if_pos ⟨rfl, rfl⟩]⟩
            clear HKL
            go_wp2
            go_quiet (fail)
            go_wp2
            go_ret2
            exact ⟨pw_below_drewN HB4.out _, .inr ⟨_, by rw [HL.out, HF.out], rfl⟩⟩
          · have k2 : (ku == 7) = false := beq_eq_false_iff_ne.2 g2
            have HF : Aside0 (kwL v u = decide (7 < ku)) := ⟨by rw [HKL.out, if_neg (fun h => g2 h.2)]⟩
            clear g2 HKL
            go_wp2
            go_ret2
            exact ⟨HB4.out, .inr ⟨_, by rw [HL.out, HF.out], rfl⟩⟩
        · have k1 : (kv == 7) = false := beq_eq_false_iff_ne.2 g1
          have HF : Aside0 (kwL v u = decide (kv < ku)) := ⟨by rw [HKL.out, if_neg (fun h => g1 h.1)]⟩
          clear g1 HKL
          go_wp2
          go_ret2
          exact ⟨HB4.out, .inr ⟨_, by rw [HL.out, HF.out], rfl⟩⟩
      · clear hO2
        cases m with
        | true =>
          have HL : Aside0 (tkLess p v n q u true = some (kwL v u)) := ⟨by unfold tkLess; rw [if_pos HE1.out, HV.out, hz2]; rfl⟩
          clear hz2
          go_wp2_with (go_at_call 47; (with_reducible refine (hKV1.out).mono ?_))
          rintro e W3 ⟨rfl, hD3⟩
          have hB3 : Below WA.heap.size WA W3 := HBW.out.trans (hD3.below.mono HBW.out.size)
          obtain ⟨⟨x0, x1, x2⟩, y0, y1, y2⟩ := hk.out W3 hB3
          have hKU1 := Aside0.mk (hKU.out W3 hB3)
          have HB3 := Aside0.mk hB3
          clear hD3 hB3 hKV1 hKU
          go_wp2_with (go_at_call 47; (with_reducible refine (hKU1.out).mono ?_))
          rintro e W4 ⟨rfl, hD4⟩
          have hB4 : Below WA.heap.size WA W4 := HB3.out.trans (hD4.below.mono HB3.out.size)
          obtain ⟨⟨x0, x1, x2⟩, y0, y1, y2⟩ := hk.out W4 hB4
          have kw := hKW.out W4 hB4
          have HB4 : Aside0 (Below w.heap.size w W4) := ⟨HA.out.trans (hB4.mono HA.out.size)⟩
          clear hD4 hB4 hKU1 hKW hk HB HB2 HB3 HBA HBW
          rcases Decidable.em (kv = 7) with rfl | g1
          · rcases Decidable.em (ku = 7) with rfl | g2
            · have HF : Aside0 (kwL v u = Op.bytesLess v.toList u.toList) := ⟨by rw [HKL.out, if_pos ⟨rfl, rfl⟩]⟩
              clear HKL
              go_wp2
              go_quiet (fail)
              go_wp2
              go_ret2
              exact ⟨pw_below_drewN HB4.out _, .inr ⟨_, by rw [HL.out, HF.out], rfl⟩⟩
            · have k2 : (ku == 7) = false := beq_eq_false_iff_ne.2 g2
              have HF : Aside0 (kwL v u = decide (7 < ku)) := ⟨by rw [HKL.out, if_neg (fun h => g2 h.2)]⟩
              clear g2 HKL
              go_wp2
              go_ret2
              exact ⟨HB4.out, .inr ⟨_, by rw [HL.out, HF.out], rfl⟩⟩
          · have k1 : (kv == 7) = false := beq_eq_false_iff_ne.2 g1
            have HF : Aside0 (kwL v u = decide (kv < ku)) := ⟨by rw [HKL.out, if_neg (fun h => g1 h.1)]⟩
            clear g1 HKL
            go_wp2
            go_ret2
            exact ⟨HB4.out, .inr ⟨_, by rw [HL.out, HF.out], rfl⟩⟩
        | false =>
          have HL : Aside0 (tkLess p v n q u false = some true) := ⟨by unfold tkLess; rw [if_pos HE1.out, HV.out, hz2]; rfl⟩
          clear hz2
          go_wp2
          go_ret2
          exact ⟨HB.out, .inr ⟨_, HL.out, rfl⟩⟩
    · have HV := Aside0.mk hz
      have HO := Aside0.mk hO
      clear hz hO
      go_wp2_with (go_at_call 45; (with_reducible refine (hC2.out).mono ?_))
      rintro e W2 ⟨hB2, h2⟩
      have HB2 := Aside0.mk hB2
      have hBW : Below WA.heap.size WA W2 := HBA.out.trans (hB2.mono HBA.out.size)
      obtain ⟨⟨x0, x1, x2⟩, y0, y1, y2⟩ := hk.out W2 hBW
      have HB : Aside0 (Below w.heap.size w W2) := ⟨HA.out.trans (hBW.mono HA.out.size)⟩
      have hKV1 := Aside0.mk (hKV.out W2 hBW)
      have HBW := Aside0.mk hBW
      clear hB2 hBW hKV hC2
      rcases h2 with ⟨hn, a2, rfl⟩ | ⟨z2, o2, hz2, rfl, hO2⟩
      · clear HO
        cases n with
        | true =>
          have HL : Aside0 (tkLess p v true q u m = some (kwL v u)) := ⟨by unfold tkLess; rw [if_pos HE1.out, HV.out, hn]; rfl⟩
          clear hn
          go_wp2_with (go_at_call 47; (with_reducible refine (hKV1.out).mono ?_))
          rintro e W3 ⟨rfl, hD3⟩
          have hB3 : Below WA.heap.size WA W3 := HBW.out.trans (hD3.below.mono HBW.out.size)
          obtain ⟨⟨x0, x1, x2⟩, y0, y1, y2⟩ := hk.out W3 hB3
          have hKU1 := Aside0.mk (hKU.out W3 hB3)
          have HB3 := Aside0.mk hB3
          clear hD3 hB3 hKV1 hKU
          go_wp2_with (go_at_call 47; (with_reducible refine (hKU1.out).mono ?_))
          rintro e W4 ⟨rfl, hD4⟩
          have hB4 : Below WA.heap.size WA W4 := HB3.out.trans (hD4.below.mono HB3.out.size)
          obtain ⟨⟨x0, x1, x2⟩, y0, y1, y2⟩ := hk.out W4 hB4
          have kw := hKW.out W4 hB4
          have HB4 : Aside0 (Below w.heap.size w W4) := ⟨HA.out.trans (hB4.mono HA.out.size)⟩
          clear hD4 hB4 hKU1 hKW hk HB HB2 HB3 HBA HBW
          rcases Decidable.em (kv = 7) with rfl | g1
          · rcases Decidable.em (ku = 7) with rfl | g2
            · have HF : Aside0 (kwL v u = Op.bytesLess v.toList u.toList) := ⟨by rw [HKL.out, if_pos ⟨rfl, rfl⟩]⟩
              clear HKL
              go_wp2
              go_quiet (fail)
              go_wp2
              go_ret2
              exact ⟨pw_below_drewN HB4.out _, .inr ⟨_, by rw [HL.out, HF.out], rfl⟩⟩
            · have k2 : (ku == 7) = false := beq_eq_false_iff_ne.2 g2
              have HF : Aside0 (kwL v u = decide (7 < ku)) := ⟨by rw [HKL.out, if_neg (fun h => g2 h.2)]⟩
              clear g2 HKL
              go_wp2
              go_ret2
              exact ⟨HB4.out, .inr ⟨_, by rw [HL.out, HF.out], rfl⟩⟩
          · have k1 : (kv == 7) = false := beq_eq_false_iff_ne.2 g1
            have HF : Aside0 (kwL v u = decide (kv < ku)) := ⟨by rw [HKL.out, if_neg (fun h => g1 h.1)]⟩
            clear g1 HKL
            go_wp2
            go_ret2
            exact ⟨HB4.out, .inr ⟨_, by rw [HL.out, HF.out], rfl⟩⟩
        | false =>
          have HL : Aside0 (tkLess p v false q u m = some false) := ⟨by unfold tkLess; rw [if_pos HE1.out, HV.out, hn]; rfl⟩
          clear hn
          go_wp2
          go_ret2
          exact ⟨HB.out, .inr ⟨_, HL.out, rfl⟩⟩
      · have HL : Aside0 (tkLess p v n q u m = some (Bn.cmpZ z z2 == -1)) := ⟨by unfold tkLess; rw [if_pos HE1.out, HV.out, hz2]⟩
        have HCP := Aside0.mk (big_Cmp _ _ z z2 W2 (HO.out.at_.below HB2.out) hO2.at_)
        clear hz2 hO2 HO
        go_wp2_with (go_at_call 46; (with_reducible refine (HCP.out).mono ?_))
        rintro e W3 ⟨rfl, hD3⟩
        have HB3 : Aside0 (Below w.heap.size w W3) := ⟨HB.out.trans (hD3.below.mono HB.out.size)⟩
        clear hD3
        go_wp2
        go_ret2
        exact ⟨HB3.out, .inr ⟨_, HL.out, rfl⟩⟩
  · have b1 : (p.toList == q.toList) = false := beq_eq_false_iff_ne.2 e1
    have HL : Aside0 (tkLess p v n q u m = ltQ p v q u) := ⟨by unfold tkLess; rw [if_neg e1]⟩
    clear e1 hCV hCU hKV hKU hk hKW HKL
    go_enter Tryd.func35, Tryd.ntmps35
    rw [HW.out] at c0 c1 c2 d0 d1 d2
    go_wp2
    go_quiet (fail)
    go_wp2_with (go_at_call 48; rw [← HW.out]; (with_reducible refine (hQ.out _ (by first | exact pw_below_drewN (Below.refl _ _) _ | exact Below.refl _ _)).mono ?_))
    rintro e W1 ⟨hB, h1⟩
    replace hB : Below WA.heap.size WA W1 := (pw_below_drewN (Below.refl _ WA) _).trans (hB.mono (pw_below_drewN (Below.refl WA.heap.size WA) _).size)
    have HB : Aside0 (Below w.heap.size w W1) := ⟨HA.out.trans (hB.mono HA.out.size)⟩
    clear hB c0 c1 c2 d0 d1 d2
    rcases h1 with ⟨hn, a1, rfl⟩ | ⟨x, hx, rfl⟩
    · have HN := Aside0.mk hn
      clear hn
      go_wp2
      go_ret2
      exact ⟨HB.out, .inl ⟨by rw [HL.out, HN.out], _, rfl⟩⟩
    · have HN := Aside0.mk hx
      clear hx
      go_wp2
      go_ret2
      exact ⟨HB.out, .inr ⟨_, by rw [HL.out, HN.out], rfl⟩⟩
set_option maxRecDepth 100000 in
set_option maxHeartbeats 4000000 in
theorem zz_less (p v : ByteArray) (n : Bool) (q u : ByteArray) (m : Bool) (w : World) (hs : v.size ≤ 1000000) (hs' : u.size ≤ 1000000) (hG : GW w) :
    Calls Tryd.prog 23 #[.agg #[.string p, .string v, .bool n], .agg #[.string q, .string u, .bool m]] w (TlP (tkLess p v n q u m) w) := by
  obtain ⟨WA, hWA⟩ : ∃ WA, WA = (w.alloc (.cells #[.string p, .string v, .bool n] 53)).alloc (.cells #[.string q, .string u, .bool m] 53) := ⟨_, rfl⟩
  have e1 : (w.alloc (.cells #[.string p, .string v, .bool n] 53)).heap.size = w.heap.size + 1 := by simp
  have g1 : WA.heap[w.heap.size]? = some (.cells #[.string p, .string v, .bool n] 53 (0, 0)) := by
    rw [hWA]
    exact (((Below.refl _ (w.alloc (.cells #[.string p, .string v, .bool n] 53))).alloc (Nat.le_refl _) _).block w.heap.size (by simp)).trans (blk_new w _)
  have g2 : WA.heap[w.heap.size + 1]? = some (.cells #[.string q, .string u, .bool m] 53 (0, 0)) := by
    rw [hWA, ← e1]
    exact blk_new _ _
  have hBA : Below w.heap.size w WA := by rw [hWA]; exact ((Below.refl _ w).alloc (Nat.le_refl _) _).alloc (by simp) _
  have H1 : Aside0 (∀ W, Calls Tryd.prog 34 #[.agg #[.string p, .string v, .bool n]] W fun e w' => e = .returned (.agg #[.string p, .string v, .bool n]) ∧ Below W.heap.size W w') := ⟨fun W => (semantic_ZZToken_token.calls p v n p v n W rfl).mono fun e w' h => ⟨h.1, h.2⟩⟩
  have H2 : Aside0 (∀ W, Calls Tryd.prog 34 #[.agg #[.string q, .string u, .bool m]] W fun e w' => e = .returned (.agg #[.string q, .string u, .bool m]) ∧ Below W.heap.size W w') := ⟨fun W => (semantic_ZZToken_token.calls q u m q u m W rfl).mono fun e w' h => ⟨h.1, h.2⟩⟩
  have HL : Aside0 (∀ W b, Below w.heap.size w W → TokAt W b p v n → Calls Tryd.prog 35 #[.pointer (some ⟨b, 0, none⟩), .agg #[.string q, .string u, .bool m]] W (TlP (tkLess p v n q u m) W)) := ⟨fun W b hB hT => tk_less b p v n q u m W hT hs hs' (GW.below hG hB)⟩
  have hk : Aside0 (∀ W, Below WA.heap.size WA W → TokAt W (w.heap.size + 1) q u m) := ⟨fun W hB => (TokAt.of_block g2).below hB⟩
  obtain ⟨c0, c1, c2⟩ := TokAt.of_block g1
  have HWA := Aside0.mk hWA
  have HBA := Aside0.mk hBA
  have hu := Tryd.underlying70
  have hu2 := Tryd.underlying53
  clear hs hs' hG g1 g2 e1 hBA hWA
  go_enter Tryd.func23, Tryd.ntmps23
  rw [HWA.out] at c0 c1 c2
  go_wp2_with (go_at_call 34; rw [← HWA.out]; (with_reducible refine (H1.out _).mono ?_))
  rintro e W1 ⟨rfl, hB1⟩
  obtain ⟨WB, hWB⟩ : ∃ WB, WB = W1.alloc (.cells #[.string p, .string v, .bool n] 70) := ⟨_, rfl⟩
  have hBB : Below WA.heap.size WA WB := by rw [hWB]; exact hB1.alloc hB1.size _
  obtain ⟨d0, d1, d2⟩ := hk.out WB hBB
  have hT : Aside0 (TokAt WB W1.heap.size p v n) := ⟨TokAt.of_block (t := 70) (by rw [hWB]; exact blk_new W1 _)⟩
  have HWB := Aside0.mk hWB
  have HBB : Aside0 (Below w.heap.size w WB) := ⟨HBA.out.trans (hBB.mono HBA.out.size)⟩
  clear hB1 hBB hWB hk c0 c1 c2 H1
  rw [HWB.out] at d0 d1 d2
  go_wp2_with (go_at_call 34; rw [← HWB.out]; (with_reducible refine (H2.out _).mono ?_))
  rintro e W2 ⟨rfl, hB2⟩
  have HB2 : Aside0 (Below w.heap.size w W2) := ⟨HBB.out.trans (hB2.mono HBB.out.size)⟩
  have HC := Aside0.mk (HL.out W2 W1.heap.size HB2.out (hT.out.below hB2))
  clear hB2 hT HL H2 HWB HBB HWA HBA d0 d1 d2
  go_wp2_with (go_at_call 35; (with_reducible refine (HC.out).mono ?_))
  rintro e W3 ⟨hB3, hr⟩
  have HB3 : Aside0 (Below w.heap.size w W3) := ⟨HB2.out.trans (hB3.mono HB2.out.size)⟩
  clear hB3
  rcases hr with ⟨hn, a, rfl⟩ | ⟨x, hx, rfl⟩
  · have HN := Aside0.mk hn
    clear hn
    go_wp2
    go_ret2
    exact ⟨HB3.out, .inl ⟨HN.out, _, rfl⟩⟩
  · have HN := Aside0.mk hx
    clear hx
    go_wp2
    go_ret2
    exact ⟨HB3.out, .inr ⟨_, HN.out, rfl⟩⟩
/-- What a comparison that may fail answers through the thin package. -/
def okOf (r : Option Bool) : Bool × Bool := match r with
  | none => (false, false)
  | some x => (x, true)
def impl_TokenLess.f (p v : ByteArray) (n : Bool) (q u : ByteArray) (m : Bool) : Option (Bool × Bool) := if v.size ≤ 1000000 ∧ u.size ≤ 1000000 then some (okOf (tkLess p v n q u m)) else none
set_option maxRecDepth 100000 in
set_option maxHeartbeats 4000000 in
theorem impl_TokenLess.calls (p v : ByteArray) (n : Bool) (q u : ByteArray) (m : Bool) (r1 r2 : Bool) (w : World) (hG : GW w) (h : impl_TokenLess.f p v n q u m = some (r1, r2)) :
    Calls Tryd.prog 9 #[.agg #[.string p, .string v, .bool n], .agg #[.string q, .string u, .bool m]] w fun e w' => e = .returned (.tuple #[.bool r1, .bool r2]) ∧ Below w.heap.size w w' := by
  unfold impl_TokenLess.f at h
  split at h
  · rename_i hf
    obtain ⟨hs, hs'⟩ := hf
    have HR : Aside0 (okOf (tkLess p v n q u m) = (r1, r2)) := ⟨Option.some.inj h⟩
    obtain ⟨WA, hWA⟩ : ∃ WA, WA = (w.alloc (.cells #[.string p, .string v, .bool n] 23)).alloc (.cells #[.string q, .string u, .bool m] 23) := ⟨_, rfl⟩
    have e1 : (w.alloc (.cells #[.string p, .string v, .bool n] 23)).heap.size = w.heap.size + 1 := by simp
    have g1 : WA.heap[w.heap.size]? = some (.cells #[.string p, .string v, .bool n] 23 (0, 0)) := by
      rw [hWA]
      exact (((Below.refl _ (w.alloc (.cells #[.string p, .string v, .bool n] 23))).alloc (Nat.le_refl _) _).block w.heap.size (by simp)).trans (blk_new w _)
    have g2 : WA.heap[w.heap.size + 1]? = some (.cells #[.string q, .string u, .bool m] 23 (0, 0)) := by
      rw [hWA, ← e1]
      exact blk_new _ _
    have hBA : Below w.heap.size w WA := by rw [hWA]; exact ((Below.refl _ w).alloc (Nat.le_refl _) _).alloc (by simp) _
    have HC := Aside0.mk (zz_less p v n q u m WA hs hs' (GW.below hG hBA))
    obtain ⟨c0, c1, c2⟩ := TokAt.of_block g1
    obtain ⟨d0, d1, d2⟩ := TokAt.of_block g2
    have HWA := Aside0.mk hWA
    have HBA := Aside0.mk hBA
    have hu := Tryd.underlying23
    clear hs hs' hG g1 g2 e1 hBA hWA h
    go_enter Tryd.func9, Tryd.ntmps9
    rw [HWA.out] at c0 c1 c2 d0 d1 d2
    go_wp2_with (go_at_call 23; rw [← HWA.out]; (with_reducible refine (HC.out).mono ?_))
    rintro e W3 ⟨hB3, hr⟩
    have HB3 : Aside0 (Below w.heap.size w W3) := ⟨HBA.out.trans (hB3.mono HBA.out.size)⟩
    clear hB3 c0 c1 c2 d0 d1 d2 HWA HC
    rcases hr with ⟨hn, a, rfl⟩ | ⟨x, hx, rfl⟩
    · have hrr := HR.out
      rw [hn] at hrr
      simp only [okOf, Prod.mk.injEq] at hrr
      obtain ⟨rfl, rfl⟩ := hrr
      clear HR hn
      go_wp2
      go_quiet (fail)
      go_wp2
      go_ret2
      exact ⟨rfl, by first | exact HB3.out | exact pw_below_drewN HB3.out _⟩
    · have hrr := HR.out
      rw [hx] at hrr
      simp only [okOf, Prod.mk.injEq] at hrr
      obtain ⟨rfl, rfl⟩ := hrr
      clear HR hx
      go_wp2
      go_quiet (fail)
      go_wp2
      go_ret2
      exact ⟨rfl, by first | exact HB3.out | exact pw_below_drewN HB3.out _⟩
  · cases h

end Go.Proofs.YtondnpfncgcdkaaDoor.Z
