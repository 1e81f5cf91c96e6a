-- Written by a program of this session (myprint.py).
import Derived.Test.YtifneobfjadnkaaDoorZ0
import Derived.Test.YtifneobfjadnkaaDoorZ2
import Derived.Test.YtifneobfjadnkaaDoorZ3
import Derived.Test.YtifneobfjadnkaaDoorSsC
import Derived.Test.YtifneobfjadnkaaDoorShelf
import Derived.Test.YtifneobfjadnkaaDoorBy
import Derived.Test.YtifneobfjadnkaaDoorEv
import Derived.Laws.MakeOwn
import Derived.Lib.ConvBytes
import Derived.Deep.CutBlock
import Derived.Deep.DeepCutAuto
import Derived.BigQuiet
import Derived.Deep.QuietTactic
import Derived.Deep.RegionHeld3
import Derived.Test.YtifneobfjadnkaaDoorGe
namespace Go.Proofs.YtifneobfjadnkaaDoor.Z
open Go.Proofs.YtifneobfjadnkaaDoor.Gw
open Go.RowKit Go.Proofs.YtifneobfjadnkaaDoorW.PrintWords Go.Proofs.YtifneobfjadnkaaDoorW.PrintLast Go.Proofs.YtifneobfjadnkaaDoorW.PrintMore
attribute [local go_sem high] Go.Proofs.YtifneobfjadnkaaDoor.Ge.gtr_str
attribute [local go_sem] max2_int min2_int max_two min_two max_three min_three max_four min_four   -- for this text's walks alone
set_option linter.unusedVariables false
set_option linter.unusedSimpArgs false

-- PLUGGED semantic_comparePackagistComponents: function 15 (a text of this session)
/-! weights -/
def pfx (s p : ByteArray) : Bool := decide (p.size ≤ s.size) && ((s.extract 0 p.size).toList == p.toList)

theorem hasPrefix_f (s p : ByteArray) : strings_HasPrefix.f s p = some (pfx s p) := by
  unfold strings_HasPrefix.f stringslite_HasPrefix.f pfx
  by_cases h : (s.size : Int) ≥ (p.size : Int)
  · have h' : p.size ≤ s.size := by omega
    rw [if_pos h, if_pos (by omega), if_pos (by omega)]
    simp [h']
  · have h' : ¬ p.size ≤ s.size := by omega
    rw [if_neg h]
    simp [h']

def wt (s : ByteArray) : Int :=
  if pfx s ⟨#[82, 67]⟩ then 3 else if pfx s ⟨#[100, 101, 118]⟩ then 0 else if pfx s ⟨#[97]⟩ then 1 else if pfx s ⟨#[98]⟩ then 2
  else if pfx s ⟨#[114, 99]⟩ then 3 else if pfx s ⟨#[35]⟩ then 4 else if pfx s ⟨#[112]⟩ then 5 else 0

theorem weigh_l (k : Nat) (s : ByteArray) (i : Nat) (n : Nat) (xs : List ByteArray) (hn : xs.length = n) (hb : n < 100) (hi : i < n) :
    semantic_weighPackagistBuildCharacter.l0 (k + 1) s xs n i = if pfx s (xs.getD i ByteArray.empty) then some (i : Int) else semantic_weighPackagistBuildCharacter.l0 k s xs n ((i + 1 : Nat) : Int) := by
  simp only [semantic_weighPackagistBuildCharacter.l0, hasPrefix_f, rdOf, Option.bind_some, Int.toNat_natCast]
  rw [if_pos (by omega), if_pos (by omega), if_pos (by omega)]
  have : wrap64 ((i : Int) + 1) = ((i + 1 : Nat) : Int) := by unfold wrap64; omega
  rw [this]
theorem weigh_f (k : Nat) (s : ByteArray) : semantic_weighPackagistBuildCharacter.f (k + 7) s = some (wt s) := by
  unfold semantic_weighPackagistBuildCharacter.f wt
  rw [hasPrefix_f]
  simp only [Option.bind_some]
  by_cases h0 : pfx s ⟨#[82, 67]⟩ = true
  · rw [if_pos h0, if_pos h0]
  rw [if_neg h0, if_neg h0]
  have st := fun k i h => weigh_l k s i 6 _ (show ([(⟨#[100, 101, 118]⟩ : ByteArray), (⟨#[97]⟩ : ByteArray), (⟨#[98]⟩ : ByteArray), (⟨#[114, 99]⟩ : ByteArray), (⟨#[35]⟩ : ByteArray), (⟨#[112]⟩ : ByteArray)] : List ByteArray).length = 6 from rfl) (by omega) h
  have e : ∀ (i : Nat) (a b : Option Int), i ≤ 6 → a = b → a = b := fun _ _ _ _ h => h
  refine (st (k + 6) 0 (by omega)).trans ?_
  simp only [List.getD_cons_zero, List.getD_cons_succ]
  split; · rfl
  refine (st (k + 5) 1 (by omega)).trans ?_
  simp only [List.getD_cons_zero, List.getD_cons_succ]
  split; · rfl
  refine (st (k + 4) 2 (by omega)).trans ?_
  simp only [List.getD_cons_zero, List.getD_cons_succ]
  split; · rfl
  refine (st (k + 3) 3 (by omega)).trans ?_
  simp only [List.getD_cons_zero, List.getD_cons_succ]
  split; · rfl
  refine (st (k + 2) 4 (by omega)).trans ?_
  simp only [List.getD_cons_zero, List.getD_cons_succ]
  split; · rfl
  refine (st (k + 1) 5 (by omega)).trans ?_
  simp only [List.getD_cons_zero, List.getD_cons_succ]
  split; · rfl
  simp only [semantic_weighPackagistBuildCharacter.l0]
  rw [if_neg (by omega)]

/-- Two components by their weights. -/
def spW (a b : ByteArray) : Int := if wt a > wt b then 1 else if wt a < wt b then -1 else 0
theorem spW_ev (a b : ByteArray) : semantic_comparePackagistSpecialVersions.f 7 a b = some (spW a b) := by
  unfold semantic_comparePackagistSpecialVersions.f spW
  rw [weigh_f 0 a, weigh_f 0 b]
  simp only [Option.bind_some]
  repeat' split
  all_goals rfl
theorem spW_ran (a b : ByteArray) : -1 ≤ spW a b ∧ spW a b ≤ 1 := by
  unfold spW
  repeat' split
  all_goals omega
def hsh : ByteArray := ⟨#[35]⟩
/-- Two components. -/
def pkP (x y : ByteArray) : Int := match Ss.cvt x, Ss.cvt y with
  | some a, some b => Bn.cmpZ a b
  | none, none => spW x y
  | some _, none => spW hsh y
  | none, some _ => spW x hsh
theorem pkP_ran (x y : ByteArray) : -1 ≤ pkP x y ∧ pkP x y ≤ 1 := by
  have hz : ∀ a b : Int, -1 ≤ Bn.cmpZ a b ∧ Bn.cmpZ a b ≤ 1 := fun a b => by unfold Bn.cmpZ; split <;> (try split) <;> omega
  unfold pkP
  cases Ss.cvt x <;> cases Ss.cvt y
  · exact spW_ran _ _
  · exact spW_ran _ _
  · exact spW_ran _ _
  · exact hz _ _
def pkM : List ByteArray → List ByteArray → Int
  | x :: l, y :: r => if pkP x y = 0 then pkM l r else pkP x y
  | [], _ => 0
  | _ :: _, [] => 0
def aok (s : ByteArray) : Bool := match Lib.atoiAll (By.bl s) with
  | .ok _ => true
  | _ => false
def pkF : Nat → List ByteArray → List ByteArray → Option Int
  | 0, _, _ => none
  | k + 1, a, b => if pkM a b = 0 then (if b.length < a.length then (if aok (a.getD b.length hsh) = true then some 1 else pkF k (a.drop b.length) [hsh]) else if a.length < b.length then (if aok (b.getD a.length hsh) = true then some (-1) else pkF k [hsh] (b.drop a.length)) else some 0) else some (pkM a b)
def fitP (l : List ByteArray) : Bool := l.all fun s => decide (s.size ≤ 1000000)
theorem fitP_get {l : List ByteArray} (h : fitP l = true) (i : Nat) (hi : i < l.length) : (l[i]'hi).size ≤ 1000000 := of_decide_eq_true (List.all_eq_true.1 h _ (List.getElem_mem hi))
theorem fitP_drop {l : List ByteArray} (h : fitP l = true) (n : Nat) : fitP (l.drop n) = true := by
  unfold fitP at h ⊢
  rw [List.all_eq_true] at h ⊢
  exact fun x hx => h x (List.mem_of_mem_drop hx)
theorem fitP_hsh : fitP [hsh] = true := by decide
theorem pkM_step (l r : List ByteArray) (i : Nat) (h : i < l.length) (h' : i < r.length) : pkM (l.drop i) (r.drop i) = if pkP (l[i]'h) (r[i]'h') = 0 then pkM (l.drop (i + 1)) (r.drop (i + 1)) else pkP (l[i]'h) (r[i]'h') := by
  rw [List.drop_eq_getElem_cons h, List.drop_eq_getElem_cons h', pkM]
theorem pkM_end (l r : List ByteArray) (i : Nat) (hi : i = l.length ∨ i = r.length) : pkM (l.drop i) (r.drop i) = 0 := by
  rcases hi with rfl | rfl
  · rw [List.drop_length]
    rfl
  · rw [List.drop_length]
    cases l.drop r.length <;> rfl
def semantic_comparePackagistComponents.f (l0 l1 : List ByteArray) : Option Int := if fitP l0 && fitP l1 then pkF (l0.length + l1.length + 2) l0 l1 else none
theorem pk_Str {w : World} {A : Option Addr} {n : Nat} {xs : List ByteArray} (h : Kd.C Kd.string w A n xs) (i : Nat) (h1 : i < xs.length) (hn : n = xs.length) : ∃ ad, A = some ad ∧ w.cell? (ad.add i) = some (.string (xs[i]'h1)) := by
  obtain ⟨ad, c, e, _, hK, hc0⟩ := Kd.C_get h (xs[i]'h1) (i : Int) (by omega) (by omega)
  have hc : ∀ j u, c[j]? = some u → w.cell? (ad.add (i * 1 + j)) = some u := hc0
  have hg : xs.getD (i : Int).toNat (xs[i]'h1) = xs[i]'h1 := by rw [Int.toNat_natCast, List.getD_eq_getElem?_getD, List.getElem?_eq_getElem h1]; rfl
  rw [hg] at hK
  have hcs : c = [.string (xs[i]'h1)] := hK
  subst hcs
  have := hc 0 _ rfl
  rw [Nat.mul_one, Nat.add_zero] at this
  exact ⟨ad, e, this⟩
theorem pk_one (W : World) (t : TypeId) : Kd.C Kd.string (W.alloc (.cells #[.string hsh] t)) (some ⟨W.heap.size, 0, none⟩) [hsh].length [hsh] := by
  refine Kd.C_of_reads (d := hsh) ⟨rfl, by simp, fun _ => ⟨_, rfl, fun j hj => ?_⟩⟩
  have h0 : j = 0 := by simp at hj; omega
  subst h0
  have := (blk_cell (blk_new W (.cells #[.string hsh] t (0, 0))) 0).trans rfl
  rw [add_plain]
  exact this
def pkI : Value → Nat
  | .int _ n => n.toNat
  | _ => 0
theorem pk_hcell {W W' : World} {a : Addr} {v : Value} (hb : Below W.heap.size W W') (h : W.cell? a = some v) : W'.cell? a = some v := (hb.cell (World.block_lt_of_cell? W _ h)).trans h
theorem pk_drewB {w W : World} (h : Below w.heap.size w W) : Below w.heap.size w W.drew := pw_below_drewN h 1
/-- What Atoi's error tells: that there is one. -/
structure AtP (s : ByteArray) (w : World) (e : Ending) (w' : World) : Prop where
  h : (∃ v : Int, aok s = true ∧ e = .returned (.tuple #[.int .i64 v, .nilIface]) ∧ Below w.heap.size w w') ∨ (∃ (v : Int) (t : TypeId) (N : Nat), aok s = false ∧ e = .returned (.tuple #[.int .i64 v, .iface t (.pointer (some ⟨N, 0, none⟩))]) ∧ Below w.heap.size w w')
theorem pk_bytes (W : World) (t : TypeId) (s : ByteArray) : Below W.heap.size W (Lib.bytesWorld W t s) := ⟨rfl, rfl, rfl, by rw [Lib.bytesWorld_size]; omega, fun k hk => Lib.bytesWorld_at_old W t s k hk⟩
theorem pk_atoi (s : ByteArray) (w : World) (hs : s.size ≤ 1000000) (hG : GW w) : Calls Tryd.prog 22 #[.string s] w (AtP s w) := by
  obtain ⟨_, a, b, h1, h2⟩ := hG
  cases h : Lib.atoiAll s.data.toList
  · rename_i v
    refine (Tryd.strconv_Atoi_ok s (by omega) v h w).mono ?_
    rintro e w' ⟨rfl, hw⟩
    refine ⟨.inl ⟨v, ?_, rfl, ?_⟩⟩
    · unfold aok By.bl
      rw [h]
    · rcases hw with rfl | ⟨t, rfl⟩
      · exact Below.refl _ _
      · exact pk_bytes _ _ _
  · refine (Any.strconv_Atoi_syntax Tryd.laysC172 s (by omega) h _ w h1 (.inr ⟨_, _, rfl⟩)).mono ?_
    rintro e w' ⟨N, rfl, _, _, hb⟩
    refine ⟨.inr ⟨_, _, N, ?_, rfl, hb⟩⟩
    unfold aok By.bl
    rw [h]
  · refine (Tryd.strconv_Atoi_range s (by omega) h _ w h2 (.inr ⟨_, _, rfl⟩)).mono ?_
    rintro e w' ⟨N, rfl, _, _, hb⟩
    refine ⟨.inr ⟨_, _, N, ?_, rfl, hb⟩⟩
    unfold aok By.bl
    rw [h]
attribute [local go_sem] Ss.EV
set_option maxRecDepth 100000 in
set_option maxHeartbeats 8000000 in
theorem pk_calls (k : Nat) : ∀ (A0 : Option Addr) (c0 : Nat) (l0 : List ByteArray) (A1 : Option Addr) (c1 : Nat) (l1 : List ByteArray) (r : Int) (w : World), Kd.C Kd.string w A0 l0.length l0 → l0.length ≤ c0 → Kd.C Kd.string w A1 l1.length l1 → l1.length ≤ c1 → Gw.GW w → fitP l0 = true → fitP l1 = true → pkF k l0 l1 = some r →
    Calls Tryd.prog 15 #[.slice A0 l0.length c0, .slice A1 l1.length c1] w fun e w' => e = .returned (.int .i64 r) ∧ Below w.heap.size w w' := by
  induction k with
  | zero =>
    intro A0 c0 l0 A1 c1 l1 r w _ _ _ _ _ _ _ h
    cases h
  | succ k ih =>
    intro A0 c0 l0 A1 c1 l1 r w hr0 hc0 hr1 hc1 hG hf0 hf1 h
    have IH := Aside0.mk ih
    have HF0 := Aside0.mk hf0
    have HF1 := Aside0.mk hf1
    have HR0' := Aside0.mk hr0
    have HR1' := Aside0.mk hr1
    have HG' := Aside0.mk hG
    have hm0 := Kd.C_max hr0
    have hm1 := Kd.C_max hr1
    obtain ⟨M, hM⟩ : ∃ M, M = pkM l0 l1 := ⟨_, rfl⟩
    obtain ⟨n0, hn0⟩ : ∃ n0, n0 = l0.length := ⟨_, rfl⟩
    obtain ⟨n1, hn1⟩ : ∃ n1, n1 = l1.length := ⟨_, rfl⟩
    have HRES : Aside0 ((M ≠ 0 → r = M) ∧ (M = 0 → (n0 < n1 → (aok (l1.getD n0 hsh) = true → r = -1) ∧ (aok (l1.getD n0 hsh) = false → pkF k [hsh] (l1.drop n0) = some r)) ∧ (n1 < n0 → (aok (l0.getD n1 hsh) = true → r = 1) ∧ (aok (l0.getD n1 hsh) = false → pkF k (l0.drop n1) [hsh] = some r)) ∧ (n0 = n1 → r = 0))) := ⟨by
      rw [pkF, ← hM, ← hn0, ← hn1] at h
      refine ⟨fun hz => ?_, fun hz => ⟨fun hl => ⟨fun ha => ?_, fun ha => ?_⟩, fun hl => ⟨fun ha => ?_, fun ha => ?_⟩, fun hl => ?_⟩⟩
      · rw [if_neg hz] at h
        exact (Option.some.inj h).symm
      · rw [if_pos hz, if_neg (by omega), if_pos hl, if_pos ha] at h
        exact (Option.some.inj h).symm
      · rw [if_pos hz, if_neg (by omega), if_pos hl, if_neg (by rw [ha]; decide)] at h
        exact h
      · rw [if_pos hz, if_pos hl, if_pos ha] at h
        exact (Option.some.inj h).symm
      · rw [if_pos hz, if_pos hl, if_neg (by rw [ha]; decide)] at h
        exact h
      · rw [if_pos hz, if_neg (by omega), if_neg (by omega)] at h
        exact (Option.some.inj h).symm⟩
    have HMM : Aside0 (M = pkM (l0.drop 0) (l1.drop 0)) := ⟨hM⟩
    have HN : Aside0 (n0 = l0.length ∧ n1 = l1.length) := ⟨hn0, hn1⟩
    have HC0 : Aside0 (n0 ≤ c0) := ⟨by omega⟩
    have HC1 : Aside0 (n1 ≤ c1) := ⟨by omega⟩
    rw [← hn0] at hm0 ⊢
    rw [← hn1] at hm1 ⊢
    have hcc0 := HC0.out
    have hcc1 := HC1.out
    clear h hr0 hr1 hc0 hc1 hG hf0 hf1 hM hn0 hn1 ih
    go_enter Tryd.func15, Tryd.ntmps15
    go_upto_region 1 with fail
    go_cut [5] (fun v5 wc => Aside0 (wc = w) ∧ ∃ m : Nat, v5 = .int .i64 (m : Int) ∧ m ≤ n0 ∧ m ≤ n1 ∧ (m = n0 ∨ m = n1))
    case first =>
      rcases Nat.lt_or_ge n1 n0 with hlt | hge
      · go_wp2
        all_goals
          go_meet
          exact ⟨⟨rfl⟩, _, rfl, by omega, by omega, by omega⟩
      · go_wp2
        all_goals
          go_meet
          exact ⟨⟨rfl⟩, _, rfl, by omega, by omega, by omega⟩
    case rest =>
      obtain ⟨⟨rfl⟩, m, rfl, hma, hmb, hmc⟩ := hcut
      have HR0 : Aside0 (Kd.C Kd.string wc A0 l0.length l0) := HR0'
      have HR1 : Aside0 (Kd.C Kd.string wc A1 l1.length l1) := HR1'
      have HG : Aside0 (∀ W, Below wc.heap.size wc W → Gw.GW W) := ⟨fun W h => Gw.GW.below HG'.out h⟩
      have HML : Aside0 (m ≤ 9223372036854775807) := ⟨by omega⟩
      clear HR0' HR1' HG'
      go_wp2
      go_loopw [24] (fun v24 wr => ∃ i : Nat, v24 = .int .i64 (i : Int) ∧ i ≤ m ∧ Aside0 (pkM (l0.drop i) (l1.drop i) = M) ∧ Aside0 (Below wc.heap.size wc wr)) (fun v24 wr => m - pkI v24)
      case atStart => exact ⟨0, rfl, Nat.zero_le _, ⟨HMM.out.symm⟩, ⟨Below.refl _ _⟩⟩
      case round =>
        obtain ⟨i, rfl, him, HI, HB⟩ := hrel
        by_cases hi : i < m
        · have hd : decide ((i : Int) < (m : Int)) = true := decide_eq_true (by omega)
          have hd2 : decide (i < m) = true := decide_eq_true hi
          have hl0 : i < l0.length := by have := HN.out.1; omega
          have hl1 : i < l1.length := by have := HN.out.2; omega
          obtain ⟨ad0, rfl, hx0⟩ := pk_Str (Kd.C_below HR0.out HB.out) i hl0 rfl
          obtain ⟨ad1, rfl, hx1⟩ := pk_Str (Kd.C_below HR1.out HB.out) i hl1 rfl
          have hxw0 : wc.cell? (ad0.add i) = some (.string (l0[i]'hl0)) := by
            obtain ⟨ad, e, h⟩ := pk_Str HR0.out i hl0 rfl
            cases e
            exact h
          have hxw1 : wc.cell? (ad1.add i) = some (.string (l1[i]'hl1)) := by
            obtain ⟨ad, e, h⟩ := pk_Str HR1.out i hl1 rfl
            cases e
            exact h
          have hst := pkM_step l0 l1 i hl0 hl1
          rw [HI.out] at hst
          have hs0 := fitP_get HF0.out i hl0
          have hs1 := fitP_get HF1.out i hl1
          generalize l0[i]'hl0 = x at hx0 hst hs0 hxw0
          generalize l1[i]'hl1 = y at hx1 hst hs1 hxw1
          have HXW : Aside0 (wc.cell? (ad0.add i) = some (.string x) ∧ wc.cell? (ad1.add i) = some (.string y)) := ⟨hxw0, hxw1⟩
          have hi0 : (0 : Int) ≤ (i : Int) := by omega
          have hia : (i : Int) < (n0 : Int) := by omega
          have hib : (i : Int) < (n1 : Int) := by omega
          have hC0 := Aside0.mk (Ss.ss_convert x wr hs0 (HG.out wr HB.out).1)
          have HSTEP := Aside0.mk hst
          have HX : Aside0 (y.size ≤ 1000000) := ⟨hs1⟩
          have HIM : Aside0 (i + 1 ≤ m) := ⟨hi⟩
          have hcell0 : Aside0 (∀ W, Below wr.heap.size wr W → W.cell? (ad0.add i) = some (.string x) ∧ W.cell? (ad1.add i) = some (.string y)) := ⟨fun W h => ⟨pk_hcell h hx0, pk_hcell h hx1⟩⟩
          clear hst hs0 hs1 hl0 hl1 hi hxw0 hxw1
          go_wp2_with (go_at_call 19; (with_reducible refine (hC0.out).mono ?_))
          rintro e W1 ⟨hB1, h1⟩
          obtain ⟨q0, q1⟩ := hcell0.out W1 hB1
          have HB1 := Aside0.mk hB1
          have hC1 := Aside0.mk (Ss.ss_convert y W1 HX.out (HG.out W1 (HB.out.trans (hB1.mono HB.out.size))).1)
          clear hB1 hx0 hx1 hC0
          rcases h1 with ⟨hn, a, rfl⟩ | ⟨z, o, hz, rfl, hO⟩
          · have HC0 := Aside0.mk hn
            clear hn q0 q1
            obtain ⟨q0, q1⟩ := hcell0.out W1 HB1.out
            go_wp2_with (go_at_call 19; (with_reducible refine (hC1.out).mono ?_))
            rintro e W2 ⟨hB2, h2⟩
            obtain ⟨q0, q1⟩ := hcell0.out W2 (HB1.out.trans (hB2.mono HB1.out.size))
            have HB2 : Aside0 (Below wc.heap.size wc W2) := ⟨(HB.out.trans (HB1.out.mono HB.out.size)).trans (hB2.mono (Nat.le_trans HB.out.size HB1.out.size))⟩
            rcases h2 with ⟨hn2, a2, rfl⟩ | ⟨z2, o2, hz2, rfl, hO2⟩
            · have HC1 := Aside0.mk hn2
              clear hn2
              obtain ⟨c, hcc⟩ : ∃ c, c = pkP x y := ⟨_, rfl⟩
              have HCV : Aside0 (spW x y = c) := ⟨by rw [hcc]; unfold pkP; rw [HC0.out, HC1.out]⟩
              have HRG : Aside0 (-1 ≤ c ∧ c ≤ 1) := ⟨by rw [hcc]; exact pkP_ran x y⟩
              have HST : Aside0 (M = if c = 0 then pkM (l0.drop (i + 1)) (l1.drop (i + 1)) else c) := ⟨by rw [hcc]; exact HSTEP.out⟩
              clear hcc
              have HSP : Aside0 (∀ W, Below wc.heap.size wc W → Calls Tryd.prog 21 #[.string x, .string y] W fun e w' => e = .returned (.int .i64 c) ∧ Below wc.heap.size wc w') := ⟨fun W hB => by
                refine (semantic_comparePackagistSpecialVersions.calls 7 _ _ _ W (spW_ev x y)).mono ?_
                rintro e w' ⟨rfl, h⟩
                exact ⟨by rw [HCV.out], hB.trans (h.mono hB.size)⟩⟩
              clear hB2 HCV
              rcases Int.lt_trichotomy c 0 with hc | hc | hc
              · have b1 : (c == 0) = false := beq_eq_false_iff_ne.2 (by omega)
                have b2 : (c != 0) = true := bne_iff_ne.2 (by omega)
                have b3 : decide (0 < c) = false := decide_eq_false (by omega)
                have b4 : decide (c > 0) = false := decide_eq_false (by omega)
                have HV : Aside0 (r = -1) := ⟨by
                  have h1 := HST.out
                  rw [if_neg (by omega)] at h1
                  have h2 := HRES.out.1 (by rw [h1]; omega)
                  have h3 := HRG.out
                  omega⟩
                clear hc
                go_upto_region 12 with fail
                go_region_held3 (fun w' => w'.cell? (ad0.add i) = some (.string x) ∧ w'.cell? (ad1.add i) = some (.string y)) (first | exact ⟨by with_reducible assumption, by with_reducible assumption⟩ | exact ⟨q0, q1⟩ | go_keep)
                  (first | (go_at_call 21; (with_reducible refine (HSP.out _ ?_).mono ?_); (first | (with_reducible assumption) | exact HB2.out | exact pk_drewB HB2.out); rintro e WE ⟨rfl, hbe⟩; have k0 := pk_hcell (show Below wc.heap.size wc WE from hbe) (show wc.cell? (ad0.add i) = some (.string x) from HXW.out.1); have k1 := pk_hcell (show Below wc.heap.size wc WE from hbe) (show wc.cell? (ad1.add i) = some (.string y) from HXW.out.2)))
                have HBE : Aside0 (Below wc.heap.size wc _) := ⟨hbe⟩
                clear hbe k0 k1
                skip
                go_wp2
                go_ret
                exact ⟨by first | (rw [HV.out]; done) | (rw [HV.out]; rfl), HBE.out⟩
              · subst hc
                have HV : Aside0 (pkM (l0.drop (i + 1)) (l1.drop (i + 1)) = M) := ⟨by
                  have h1 := HST.out
                  rw [if_pos rfl] at h1
                  exact h1.symm⟩
                go_upto_region 12 with fail
                go_region_held3 (fun w' => w'.cell? (ad0.add i) = some (.string x) ∧ w'.cell? (ad1.add i) = some (.string y)) (first | exact ⟨by with_reducible assumption, by with_reducible assumption⟩ | exact ⟨q0, q1⟩ | go_keep)
                  (first | (go_at_call 21; (with_reducible refine (HSP.out _ ?_).mono ?_); (first | (with_reducible assumption) | exact HB2.out | exact pk_drewB HB2.out); rintro e WE ⟨rfl, hbe⟩; have k0 := pk_hcell (show Below wc.heap.size wc WE from hbe) (show wc.cell? (ad0.add i) = some (.string x) from HXW.out.1); have k1 := pk_hcell (show Below wc.heap.size wc WE from hbe) (show wc.cell? (ad1.add i) = some (.string y) from HXW.out.2)))
                have HBE : Aside0 (Below wc.heap.size wc _) := ⟨hbe⟩
                clear hbe k0 k1
                skip
                go_wp2
                have hb1 := HIM.out
                have hb2 := HML.out
                go_roundw
                case rel => exact ⟨i + 1, (by first | (rw [Evs.wrap_nat (by omega)]; done) | (rw [Evs.wrap_nat (by omega)]; rfl) | (simp only [i64_w]; rw [Evs.wrap_nat (by omega)]) | go_num), hb1, HV, HBE⟩
                case measure =>
                  show m - pkI _ < m - pkI _
                  simp only [pkI]
                  first | (rw [show wrap64 ((i : Int) + 1) = (i : Int) + 1 from Evs.wrap_in (by omega) (by omega)]; omega) | omega
              · have b1 : (c == 0) = false := beq_eq_false_iff_ne.2 (by omega)
                have b2 : (c != 0) = true := bne_iff_ne.2 (by omega)
                have b3 : decide (0 < c) = true := decide_eq_true (by omega)
                have b4 : decide (c > 0) = true := decide_eq_true (by omega)
                have HV : Aside0 (r = 1) := ⟨by
                  have h1 := HST.out
                  rw [if_neg (by omega)] at h1
                  have h2 := HRES.out.1 (by rw [h1]; omega)
                  have h3 := HRG.out
                  omega⟩
                clear hc
                go_upto_region 12 with fail
                go_region_held3 (fun w' => w'.cell? (ad0.add i) = some (.string x) ∧ w'.cell? (ad1.add i) = some (.string y)) (first | exact ⟨by with_reducible assumption, by with_reducible assumption⟩ | exact ⟨q0, q1⟩ | go_keep)
                  (first | (go_at_call 21; (with_reducible refine (HSP.out _ ?_).mono ?_); (first | (with_reducible assumption) | exact HB2.out | exact pk_drewB HB2.out); rintro e WE ⟨rfl, hbe⟩; have k0 := pk_hcell (show Below wc.heap.size wc WE from hbe) (show wc.cell? (ad0.add i) = some (.string x) from HXW.out.1); have k1 := pk_hcell (show Below wc.heap.size wc WE from hbe) (show wc.cell? (ad1.add i) = some (.string y) from HXW.out.2)))
                have HBE : Aside0 (Below wc.heap.size wc _) := ⟨hbe⟩
                clear hbe k0 k1
                skip
                go_wp2
                go_ret
                exact ⟨by first | (rw [HV.out]; done) | (rw [HV.out]; rfl), HBE.out⟩
            · have HC1 := Aside0.mk hz2
              clear hz2
              obtain ⟨c, hcc⟩ : ∃ c, c = pkP x y := ⟨_, rfl⟩
              have HCV : Aside0 (spW x hsh = c) := ⟨by rw [hcc]; unfold pkP; rw [HC0.out, HC1.out]⟩
              have HRG : Aside0 (-1 ≤ c ∧ c ≤ 1) := ⟨by rw [hcc]; exact pkP_ran x y⟩
              have HST : Aside0 (M = if c = 0 then pkM (l0.drop (i + 1)) (l1.drop (i + 1)) else c) := ⟨by rw [hcc]; exact HSTEP.out⟩
              clear hcc
              have HSP : Aside0 (∀ W, Below wc.heap.size wc W → Calls Tryd.prog 21 #[.string x, .string ⟨#[35]⟩] W fun e w' => e = .returned (.int .i64 c) ∧ Below wc.heap.size wc w') := ⟨fun W hB => by
                refine (semantic_comparePackagistSpecialVersions.calls 7 _ _ _ W (spW_ev x hsh)).mono ?_
                rintro e w' ⟨rfl, h⟩
                exact ⟨by rw [HCV.out], hB.trans (h.mono hB.size)⟩⟩
              clear hO2 hB2 HCV
              rcases Int.lt_trichotomy c 0 with hc | hc | hc
              · have b1 : (c == 0) = false := beq_eq_false_iff_ne.2 (by omega)
                have b2 : (c != 0) = true := bne_iff_ne.2 (by omega)
                have b3 : decide (0 < c) = false := decide_eq_false (by omega)
                have b4 : decide (c > 0) = false := decide_eq_false (by omega)
                have HV : Aside0 (r = -1) := ⟨by
                  have h1 := HST.out
                  rw [if_neg (by omega)] at h1
                  have h2 := HRES.out.1 (by rw [h1]; omega)
                  have h3 := HRG.out
                  omega⟩
                clear hc
                go_wp2_with (go_at_call 21; (with_reducible refine (HSP.out _ ?hbsp).mono ?_))
                case hbsp => first | exact HB2.out | exact pw_below_drewN HB2.out _
                rintro e WE ⟨rfl, hbe⟩
                have HBE := Aside0.mk hbe
                clear hbe
                skip
                go_wp2
                go_ret
                exact ⟨by first | (rw [HV.out]; done) | (rw [HV.out]; rfl), HBE.out⟩
              · subst hc
                have HV : Aside0 (pkM (l0.drop (i + 1)) (l1.drop (i + 1)) = M) := ⟨by
                  have h1 := HST.out
                  rw [if_pos rfl] at h1
                  exact h1.symm⟩
                go_wp2_with (go_at_call 21; (with_reducible refine (HSP.out _ ?hbsp).mono ?_))
                case hbsp => first | exact HB2.out | exact pw_below_drewN HB2.out _
                rintro e WE ⟨rfl, hbe⟩
                have HBE := Aside0.mk hbe
                clear hbe
                skip
                go_wp2
                have hb1 := HIM.out
                have hb2 := HML.out
                go_roundw
                case rel => exact ⟨i + 1, (by first | (rw [Evs.wrap_nat (by omega)]; done) | (rw [Evs.wrap_nat (by omega)]; rfl) | (simp only [i64_w]; rw [Evs.wrap_nat (by omega)]) | go_num), hb1, HV, HBE⟩
                case measure =>
                  show m - pkI _ < m - pkI _
                  simp only [pkI]
                  first | (rw [show wrap64 ((i : Int) + 1) = (i : Int) + 1 from Evs.wrap_in (by omega) (by omega)]; omega) | omega
              · have b1 : (c == 0) = false := beq_eq_false_iff_ne.2 (by omega)
                have b2 : (c != 0) = true := bne_iff_ne.2 (by omega)
                have b3 : decide (0 < c) = true := decide_eq_true (by omega)
                have b4 : decide (c > 0) = true := decide_eq_true (by omega)
                have HV : Aside0 (r = 1) := ⟨by
                  have h1 := HST.out
                  rw [if_neg (by omega)] at h1
                  have h2 := HRES.out.1 (by rw [h1]; omega)
                  have h3 := HRG.out
                  omega⟩
                clear hc
                go_wp2_with (go_at_call 21; (with_reducible refine (HSP.out _ ?hbsp).mono ?_))
                case hbsp => first | exact HB2.out | exact pw_below_drewN HB2.out _
                rintro e WE ⟨rfl, hbe⟩
                have HBE := Aside0.mk hbe
                clear hbe
                skip
                go_wp2
                go_ret
                exact ⟨by first | (rw [HV.out]; done) | (rw [HV.out]; rfl), HBE.out⟩
          · have HC0 := Aside0.mk hz
            clear hz q0 q1
            obtain ⟨q0, q1⟩ := hcell0.out W1 HB1.out
            go_wp2_with (go_at_call 19; (with_reducible refine (hC1.out).mono ?_))
            rintro e W2 ⟨hB2, h2⟩
            obtain ⟨q0, q1⟩ := hcell0.out W2 (HB1.out.trans (hB2.mono HB1.out.size))
            have HB2 : Aside0 (Below wc.heap.size wc W2) := ⟨(HB.out.trans (HB1.out.mono HB.out.size)).trans (hB2.mono (Nat.le_trans HB.out.size HB1.out.size))⟩
            rcases h2 with ⟨hn2, a2, rfl⟩ | ⟨z2, o2, hz2, rfl, hO2⟩
            · have HC1 := Aside0.mk hn2
              clear hn2
              obtain ⟨c, hcc⟩ : ∃ c, c = pkP x y := ⟨_, rfl⟩
              have HCV : Aside0 (spW hsh y = c) := ⟨by rw [hcc]; unfold pkP; rw [HC0.out, HC1.out]⟩
              have HRG : Aside0 (-1 ≤ c ∧ c ≤ 1) := ⟨by rw [hcc]; exact pkP_ran x y⟩
              have HST : Aside0 (M = if c = 0 then pkM (l0.drop (i + 1)) (l1.drop (i + 1)) else c) := ⟨by rw [hcc]; exact HSTEP.out⟩
              clear hcc
              have HSP : Aside0 (∀ W, Below wc.heap.size wc W → Calls Tryd.prog 21 #[.string ⟨#[35]⟩, .string y] W fun e w' => e = .returned (.int .i64 c) ∧ Below wc.heap.size wc w') := ⟨fun W hB => by
                refine (semantic_comparePackagistSpecialVersions.calls 7 _ _ _ W (spW_ev hsh y)).mono ?_
                rintro e w' ⟨rfl, h⟩
                exact ⟨by rw [HCV.out], hB.trans (h.mono hB.size)⟩⟩
              clear hO hB2 HCV
              rcases Int.lt_trichotomy c 0 with hc | hc | hc
              · have b1 : (c == 0) = false := beq_eq_false_iff_ne.2 (by omega)
                have b2 : (c != 0) = true := bne_iff_ne.2 (by omega)
                have b3 : decide (0 < c) = false := decide_eq_false (by omega)
                have b4 : decide (c > 0) = false := decide_eq_false (by omega)
                have HV : Aside0 (r = -1) := ⟨by
                  have h1 := HST.out
                  rw [if_neg (by omega)] at h1
                  have h2 := HRES.out.1 (by rw [h1]; omega)
                  have h3 := HRG.out
                  omega⟩
                clear hc
                go_wp2_with (go_at_call 21; (with_reducible refine (HSP.out _ ?hbsp).mono ?_))
                case hbsp => first | exact HB2.out | exact pw_below_drewN HB2.out _
                rintro e WE ⟨rfl, hbe⟩
                have HBE := Aside0.mk hbe
                clear hbe
                skip
                go_wp2
                go_ret
                exact ⟨by first | (rw [HV.out]; done) | (rw [HV.out]; rfl), HBE.out⟩
              · subst hc
                have HV : Aside0 (pkM (l0.drop (i + 1)) (l1.drop (i + 1)) = M) := ⟨by
                  have h1 := HST.out
                  rw [if_pos rfl] at h1
                  exact h1.symm⟩
                go_wp2_with (go_at_call 21; (with_reducible refine (HSP.out _ ?hbsp).mono ?_))
                case hbsp => first | exact HB2.out | exact pw_below_drewN HB2.out _
                rintro e WE ⟨rfl, hbe⟩
                have HBE := Aside0.mk hbe
                clear hbe
                skip
                go_wp2
                have hb1 := HIM.out
                have hb2 := HML.out
                go_roundw
                case rel => exact ⟨i + 1, (by first | (rw [Evs.wrap_nat (by omega)]; done) | (rw [Evs.wrap_nat (by omega)]; rfl) | (simp only [i64_w]; rw [Evs.wrap_nat (by omega)]) | go_num), hb1, HV, HBE⟩
                case measure =>
                  show m - pkI _ < m - pkI _
                  simp only [pkI]
                  first | (rw [show wrap64 ((i : Int) + 1) = (i : Int) + 1 from Evs.wrap_in (by omega) (by omega)]; omega) | omega
              · have b1 : (c == 0) = false := beq_eq_false_iff_ne.2 (by omega)
                have b2 : (c != 0) = true := bne_iff_ne.2 (by omega)
                have b3 : decide (0 < c) = true := decide_eq_true (by omega)
                have b4 : decide (c > 0) = true := decide_eq_true (by omega)
                have HV : Aside0 (r = 1) := ⟨by
                  have h1 := HST.out
                  rw [if_neg (by omega)] at h1
                  have h2 := HRES.out.1 (by rw [h1]; omega)
                  have h3 := HRG.out
                  omega⟩
                clear hc
                go_wp2_with (go_at_call 21; (with_reducible refine (HSP.out _ ?hbsp).mono ?_))
                case hbsp => first | exact HB2.out | exact pw_below_drewN HB2.out _
                rintro e WE ⟨rfl, hbe⟩
                have HBE := Aside0.mk hbe
                clear hbe
                skip
                go_wp2
                go_ret
                exact ⟨by first | (rw [HV.out]; done) | (rw [HV.out]; rfl), HBE.out⟩
            · have HC1 := Aside0.mk hz2
              clear hz2
              obtain ⟨c, hcc⟩ : ∃ c, c = pkP x y := ⟨_, rfl⟩
              have HCV : Aside0 (Bn.cmpZ z z2 = c) := ⟨by rw [hcc]; unfold pkP; rw [HC0.out, HC1.out]⟩
              have HRG : Aside0 (-1 ≤ c ∧ c ≤ 1) := ⟨by rw [hcc]; exact pkP_ran x y⟩
              have HST : Aside0 (M = if c = 0 then pkM (l0.drop (i + 1)) (l1.drop (i + 1)) else c) := ⟨by rw [hcc]; exact HSTEP.out⟩
              clear hcc
              have HCM : Aside0 (Calls Tryd.prog 20 #[.pointer (some ⟨o, 0, none⟩), .pointer (some ⟨o2, 0, none⟩)] W2 fun e w' => e = .returned (.int .i64 c) ∧ Below wc.heap.size wc w') := ⟨by
                refine (big_Cmp _ _ _ _ W2 (Big.At.below hO.at_ hB2) hO2.at_).mono ?_
                rintro e w' ⟨rfl, n, rfl⟩
                exact ⟨by rw [HCV.out], pw_below_drewN HB2.out n⟩⟩
              clear hO hO2 hB2 HCV
              rcases Int.lt_trichotomy c 0 with hc | hc | hc
              · have b1 : (c == 0) = false := beq_eq_false_iff_ne.2 (by omega)
                have b2 : (c != 0) = true := bne_iff_ne.2 (by omega)
                have b3 : decide (0 < c) = false := decide_eq_false (by omega)
                have b4 : decide (c > 0) = false := decide_eq_false (by omega)
                have HV : Aside0 (r = -1) := ⟨by
                  have h1 := HST.out
                  rw [if_neg (by omega)] at h1
                  have h2 := HRES.out.1 (by rw [h1]; omega)
                  have h3 := HRG.out
                  omega⟩
                clear hc
                go_wp2_with (go_at_call 20; (with_reducible refine (HCM.out).mono ?_))
                rintro e WE ⟨rfl, hbe⟩
                have HBE := Aside0.mk hbe
                clear hbe
                skip
                go_wp2
                go_ret
                exact ⟨by first | (rw [HV.out]; done) | (rw [HV.out]; rfl), HBE.out⟩
              · subst hc
                have HV : Aside0 (pkM (l0.drop (i + 1)) (l1.drop (i + 1)) = M) := ⟨by
                  have h1 := HST.out
                  rw [if_pos rfl] at h1
                  exact h1.symm⟩
                go_wp2_with (go_at_call 20; (with_reducible refine (HCM.out).mono ?_))
                rintro e WE ⟨rfl, hbe⟩
                have HBE := Aside0.mk hbe
                clear hbe
                skip
                go_wp2
                have hb1 := HIM.out
                have hb2 := HML.out
                go_roundw
                case rel => exact ⟨i + 1, (by first | (rw [Evs.wrap_nat (by omega)]; done) | (rw [Evs.wrap_nat (by omega)]; rfl) | (simp only [i64_w]; rw [Evs.wrap_nat (by omega)]) | go_num), hb1, HV, HBE⟩
                case measure =>
                  show m - pkI _ < m - pkI _
                  simp only [pkI]
                  first | (rw [show wrap64 ((i : Int) + 1) = (i : Int) + 1 from Evs.wrap_in (by omega) (by omega)]; omega) | omega
              · have b1 : (c == 0) = false := beq_eq_false_iff_ne.2 (by omega)
                have b2 : (c != 0) = true := bne_iff_ne.2 (by omega)
                have b3 : decide (0 < c) = true := decide_eq_true (by omega)
                have b4 : decide (c > 0) = true := decide_eq_true (by omega)
                have HV : Aside0 (r = 1) := ⟨by
                  have h1 := HST.out
                  rw [if_neg (by omega)] at h1
                  have h2 := HRES.out.1 (by rw [h1]; omega)
                  have h3 := HRG.out
                  omega⟩
                clear hc
                go_wp2_with (go_at_call 20; (with_reducible refine (HCM.out).mono ?_))
                rintro e WE ⟨rfl, hbe⟩
                have HBE := Aside0.mk hbe
                clear hbe
                skip
                go_wp2
                go_ret
                exact ⟨by first | (rw [HV.out]; done) | (rw [HV.out]; rfl), HBE.out⟩
        · obtain rfl : i = m := by omega
          have hd : decide ((i : Int) < (i : Int)) = false := decide_eq_false (by omega)
          have hd2 : decide (i < i) = false := decide_eq_false (by omega)
          have HM0 : Aside0 (M = 0) := ⟨by
            rw [← HI.out]
            exact pkM_end l0 l1 i (by have h1 := HN.out.1; have h2 := HN.out.2; rcases hmc with h | h <;> omega)⟩
          clear hi
          rcases Nat.lt_trichotomy n0 n1 with hlt | hlt | hlt
          · have g1 : decide (n1 < n0) = false := decide_eq_false (by omega)
            have g2 : decide (n0 < n1) = true := decide_eq_true (by omega)
            have g3 : decide ((n1 : Int) < (n0 : Int)) = false := decide_eq_false (by omega)
            have g4 : decide ((n0 : Int) < (n1 : Int)) = true := decide_eq_true (by omega)
            have hla : n0 < l1.length := by have := HN.out.2; omega
            obtain ⟨ad, rfl, hx⟩ := pk_Str (Kd.C_below HR1.out HB.out) n0 hla rfl
            have hz0 : (0 : Int) ≤ (n0 : Int) := by omega
            have hz1 : (n0 : Int) < (n1 : Int) := by omega
            have hs := fitP_get HF1.out n0 hla
            have hgd : l1.getD n0 hsh = l1[n0]'hla := by rw [List.getD_eq_getElem?_getD, List.getElem?_eq_getElem hla]; rfl
            have HRX := HRES.out.2 HM0.out
            have HRX2 := Aside0.mk (HRX.1 (by omega))
            rw [hgd] at HRX2
            generalize l1[n0]'hla = x at hx hs HRX2
            have HCA := Aside0.mk (pk_atoi x wr hs (HG.out wr HB.out))
            clear hs hgd HRX hla
            go_wp2_with (go_at_call 22; (with_reducible refine (HCA.out).mono ?_))
            rintro e W1 ⟨hat⟩
            rcases hat with ⟨v, hok, rfl, hb⟩ | ⟨v, te, N, hok, rfl, hb⟩
            · have HV : Aside0 (r = (-1)) := ⟨HRX2.out.1 hok⟩
              have HBE : Aside0 (Below wc.heap.size wc W1) := ⟨HB.out.trans (hb.mono HB.out.size)⟩
              clear hok hb
              go_wp2
              go_ret
              exact ⟨by first | (rw [HV.out]; done) | (rw [HV.out]; rfl), HBE.out⟩
            · have HPF := Aside0.mk (HRX2.out.2 hok)
              have HBE : Aside0 (Below wc.heap.size wc W1) := ⟨HB.out.trans (hb.mono HB.out.size)⟩
              have hcA := HC1.out
              obtain ⟨W2, hW2⟩ : ∃ W2, W1.alloc (.cells #[.string ⟨#[35]⟩] 9) = W2 := ⟨_, rfl⟩
              have hB2 : Below W1.heap.size W1 W2 := by rw [← hW2]; exact (Below.refl _ _).alloc (Nat.le_refl _) _
              have HB2 : Aside0 (Below wc.heap.size wc W2) := ⟨HBE.out.trans (hB2.mono HBE.out.size)⟩
              have HREC : Aside0 (Calls Tryd.prog 15 #[.slice (some ⟨W1.heap.size, 0, none⟩) 1 1, .slice (some (ad.add n0)) (n1 - n0) (c1 - n0)] W2 fun e w' => e = .returned (.int .i64 r) ∧ Below wc.heap.size wc w') := ⟨by
                have hd0 := Kd.C_drop (k := Kd.string) (m := n0) (c := c1) HR1.out (by have := HN.out.2; omega) (by have := HN.out.2; omega)
                rw [if_neg (by omega)] at hd0
                have hlen : (l1.drop n0).length = n1 - n0 := by rw [List.length_drop, ← HN.out.2]
                have hone : Kd.C Kd.string W2 (some ⟨W1.heap.size, 0, none⟩) [hsh].length [hsh] := by
                  rw [← hW2]
                  exact pk_one W1 9
                have hd1 : Kd.C Kd.string W2 (some (ad.add n0)) (l1.drop n0).length (l1.drop n0) := by
                  have h := Kd.C_below hd0 HB2.out
                  have e1 : n0 * (Kd.string).sz = n0 := Nat.mul_one n0
                  rw [e1] at h
                  exact h
                have h := IH.out (some ⟨W1.heap.size, 0, none⟩) 1 [hsh] (some (ad.add n0)) (c1 - n0) (l1.drop n0) r W2 hone (Nat.le_refl _) hd1 (by rw [hlen]; omega) (HG.out W2 HB2.out) fitP_hsh (fitP_drop HF1.out n0) HPF.out
                rw [hlen] at h
                refine h.mono ?_
                rintro e w' ⟨rfl, hb'⟩
                exact ⟨rfl, HB2.out.trans (hb'.mono HB2.out.size)⟩⟩
              clear hok hb hB2
              go_wp2_with (go_at_call 15; (with_reducible refine (HREC.out).mono ?_))
              rintro e WE ⟨rfl, hbe⟩
              have HBX := Aside0.mk hbe
              clear hbe
              go_wp2
              go_ret
              exact ⟨rfl, HBX.out⟩
          · have g1 : decide (n1 < n0) = false := decide_eq_false (by omega)
            have g2 : decide (n0 < n1) = false := decide_eq_false (by omega)
            have HV : Aside0 (r = 0) := ⟨(HRES.out.2 HM0.out).2.2 hlt⟩
            subst hlt
            go_wp2
            go_ret
            exact ⟨by first | (rw [HV.out]; done) | (rw [HV.out]; rfl), HB.out⟩
          · have g1 : decide (n1 < n0) = true := decide_eq_true (by omega)
            have g2 : decide (n0 < n1) = false := decide_eq_false (by omega)
            have g3 : decide ((n1 : Int) < (n0 : Int)) = true := decide_eq_true (by omega)
            have g4 : decide ((n0 : Int) < (n1 : Int)) = false := decide_eq_false (by omega)
            have hla : n1 < l0.length := by have := HN.out.1; omega
            obtain ⟨ad, rfl, hx⟩ := pk_Str (Kd.C_below HR0.out HB.out) n1 hla rfl
            have hz0 : (0 : Int) ≤ (n1 : Int) := by omega
            have hz1 : (n1 : Int) < (n0 : Int) := by omega
            have hs := fitP_get HF0.out n1 hla
            have hgd : l0.getD n1 hsh = l0[n1]'hla := by rw [List.getD_eq_getElem?_getD, List.getElem?_eq_getElem hla]; rfl
            have HRX := HRES.out.2 HM0.out
            have HRX2 := Aside0.mk (HRX.2.1 (by omega))
            rw [hgd] at HRX2
            generalize l0[n1]'hla = x at hx hs HRX2
            have HCA := Aside0.mk (pk_atoi x wr hs (HG.out wr HB.out))
            clear hs hgd HRX hla
            go_wp2_with (go_at_call 22; (with_reducible refine (HCA.out).mono ?_))
            rintro e W1 ⟨hat⟩
            rcases hat with ⟨v, hok, rfl, hb⟩ | ⟨v, te, N, hok, rfl, hb⟩
            · have HV : Aside0 (r = 1) := ⟨HRX2.out.1 hok⟩
              have HBE : Aside0 (Below wc.heap.size wc W1) := ⟨HB.out.trans (hb.mono HB.out.size)⟩
              clear hok hb
              go_wp2
              go_ret
              exact ⟨by first | (rw [HV.out]; done) | (rw [HV.out]; rfl), HBE.out⟩
            · have HPF := Aside0.mk (HRX2.out.2 hok)
              have HBE : Aside0 (Below wc.heap.size wc W1) := ⟨HB.out.trans (hb.mono HB.out.size)⟩
              have hcA := HC0.out
              obtain ⟨W2, hW2⟩ : ∃ W2, W1.alloc (.cells #[.string ⟨#[35]⟩] 9) = W2 := ⟨_, rfl⟩
              have hB2 : Below W1.heap.size W1 W2 := by rw [← hW2]; exact (Below.refl _ _).alloc (Nat.le_refl _) _
              have HB2 : Aside0 (Below wc.heap.size wc W2) := ⟨HBE.out.trans (hB2.mono HBE.out.size)⟩
              have HREC : Aside0 (Calls Tryd.prog 15 #[.slice (some (ad.add n1)) (n0 - n1) (c0 - n1), .slice (some ⟨W1.heap.size, 0, none⟩) 1 1] W2 fun e w' => e = .returned (.int .i64 r) ∧ Below wc.heap.size wc w') := ⟨by
                have hd0 := Kd.C_drop (k := Kd.string) (m := n1) (c := c0) HR0.out (by have := HN.out.1; omega) (by have := HN.out.1; omega)
                rw [if_neg (by omega)] at hd0
                have hlen : (l0.drop n1).length = n0 - n1 := by rw [List.length_drop, ← HN.out.1]
                have hone : Kd.C Kd.string W2 (some ⟨W1.heap.size, 0, none⟩) [hsh].length [hsh] := by
                  rw [← hW2]
                  exact pk_one W1 9
                have hd1 : Kd.C Kd.string W2 (some (ad.add n1)) (l0.drop n1).length (l0.drop n1) := by
                  have h := Kd.C_below hd0 HB2.out
                  have e1 : n1 * (Kd.string).sz = n1 := Nat.mul_one n1
                  rw [e1] at h
                  exact h
                have h := IH.out (some (ad.add n1)) (c0 - n1) (l0.drop n1) (some ⟨W1.heap.size, 0, none⟩) 1 [hsh] r W2 hd1 (by rw [hlen]; omega) hone (Nat.le_refl _) (HG.out W2 HB2.out) (fitP_drop HF0.out n1) fitP_hsh HPF.out
                rw [hlen] at h
                refine h.mono ?_
                rintro e w' ⟨rfl, hb'⟩
                exact ⟨rfl, HB2.out.trans (hb'.mono HB2.out.size)⟩⟩
              clear hok hb hB2
              go_wp2_with (go_at_call 15; (with_reducible refine (HREC.out).mono ?_))
              rintro e WE ⟨rfl, hbe⟩
              have HBX := Aside0.mk hbe
              clear hbe
              go_wp2
              go_ret
              exact ⟨rfl, HBX.out⟩
theorem semantic_comparePackagistComponents.calls (A0 : Option Addr) (c0 : Nat) (l0 : List ByteArray) (A1 : Option Addr) (c1 : Nat) (l1 : List ByteArray) (r : Int) (w : World) (hr0 : Kd.C Kd.string w A0 l0.length l0) (hc0 : l0.length ≤ c0) (hr1 : Kd.C Kd.string w A1 l1.length l1) (hc1 : l1.length ≤ c1) (hG : GW w) (h : semantic_comparePackagistComponents.f l0 l1 = some r) :
    Calls Tryd.prog 15 #[.slice A0 l0.length c0, .slice A1 l1.length c1] w fun e w' => e = .returned (.int .i64 r) ∧ Below w.heap.size w w' := by
  unfold semantic_comparePackagistComponents.f at h
  split at h
  · rename_i hf
    rw [Bool.and_eq_true] at hf
    exact pk_calls _ A0 c0 l0 A1 c1 l1 r w hr0 hc0 hr1 hc1 hG hf.1 hf.2 h
  · cases h

end Go.Proofs.YtifneobfjadnkaaDoor.Z
