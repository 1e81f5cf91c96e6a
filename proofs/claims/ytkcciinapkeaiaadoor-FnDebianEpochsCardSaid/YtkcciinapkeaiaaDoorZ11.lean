-- Written by a program of this session (myprint.py).
import Derived.Test.YtkcciinapkeaiaaDoorZ0
import Derived.Test.YtkcciinapkeaiaaDoorZ2
import Derived.Test.YtkcciinapkeaiaaDoorZ3
import Derived.Test.YtkcciinapkeaiaaDoorZ5
import Derived.Test.YtkcciinapkeaiaaDoorZ6
import Derived.Test.YtkcciinapkeaiaaDoorZ7
import Derived.Test.YtkcciinapkeaiaaDoorZ8
import Derived.Test.YtkcciinapkeaiaaDoorZ9
import Derived.Test.YtkcciinapkeaiaaDoorZ10
import Derived.Test.YtkcciinapkeaiaaDoorShelf
import Derived.Lib.LastIndexByte
import Derived.Lib.OthersKept
import Derived.Laws.RangeString
import Derived.Laws.RangeAny
import Derived.Test.YtkcciinapkeaiaaDoorBy
import Derived.Test.YtkcciinapkeaiaaDoorEv
import Derived.Laws.MakeOwn
import Derived.Deep.CutBlock
import Derived.Deep.DeepCutAuto
import Derived.BigQuiet
import Derived.Deep.QuietTactic
import Derived.Deep.RegionHeld3
import Derived.Test.YtkcciinapkeaiaaDoorGe
namespace Go.Proofs.YtkcciinapkeaiaaDoor.Z
open Go.Proofs.YtkcciinapkeaiaaDoor.Gw
open Go.RowKit Go.Proofs.YtkcciinapkeaiaaDoorW.PrintWords Go.Proofs.YtkcciinapkeaiaaDoorW.PrintLast Go.Proofs.YtkcciinapkeaiaaDoorW.PrintMore
attribute [local go_sem high] Go.Proofs.YtkcciinapkeaiaaDoor.Ge.gtr_str
attribute [local go_sem] max2_int min2_int max_two min_two max_three min_three max_four min_four   -- for this text's walks alone
set_option linter.unusedVariables false
set_option linter.unusedSimpArgs false

-- PLUGGED impl_DebianCompare: function 14 (a text of this session)
/-! a Debian version's parts -/
def befC (c : UInt8) (l : List UInt8) : List UInt8 := l.takeWhile (· != c)
def aftC (c : UInt8) (l : List UInt8) : List UInt8 := (l.dropWhile (· != c)).tail
def upC (l : List UInt8) : List UInt8 := ((l.reverse.dropWhile (· != 45)).tail).reverse
def rvC (l : List UInt8) : List UInt8 := (l.reverse.takeWhile (· != 45)).reverse
def dbS (r : List UInt8) : List UInt8 × List UInt8 := if r.contains 45 = true then (upC r, rvC r) else (r, [48])
def dbp (l : List UInt8) : Option (Int × List UInt8 × List UInt8) := if (Lib.trimSpace l).contains 58 = true then (Ss.cvt (By.ofL (befC 58 (Lib.trimSpace l)))).map fun z => (z, dbS (aftC 58 (Lib.trimSpace l))) else some (0, dbS (Lib.trimSpace l))
theorem drop_nil_iff (c : UInt8) (l : List UInt8) : l.dropWhile (· != c) = [] ↔ l.contains c = false := by
  induction l with
  | nil => simp
  | cons x r ih =>
    rw [List.dropWhile_cons, List.contains_cons]
    by_cases h : x = c
    · subst h
      simp
    · have h1 : (x != c) = true := by simpa using h
      have h2 : (c == x) = false := by simpa using (Ne.symm h)
      rw [if_pos h1, h2, Bool.false_or]
      exact ih
theorem zsI_has (c : UInt8) (l : List UInt8) : decide (zsI c l ≥ 0) = l.contains c := by
  unfold zsI
  by_cases h : l.dropWhile (· != c) = []
  · rw [if_pos h, (drop_nil_iff c l).1 h]
    rfl
  · rw [if_neg h]
    have : l.contains c = true := by
      cases hc : l.contains c with
      | true => rfl
      | false => exact absurd ((drop_nil_iff c l).2 hc) h
    rw [this]
    exact decide_eq_true (by omega)
theorem has_ev (c : UInt8) (l : List UInt8) (hl : l.length ≤ 100000) : ∃ k, semantic_zzContains.f k (By.ofL l) (By.ofL [c]) = some (l.contains c) := by
  obtain ⟨k, hk⟩ := zs_ev c l (by omega)
  refine ⟨k, ?_⟩
  unfold semantic_zzContains.f
  have hk' : semantic_zzIndex.f k (By.ofL l) (By.ofL [c]) = some (zsI c l) := hk k (Nat.le_refl k)
  rw [hk', ← zsI_has c l]
  rfl
theorem bef_cut (c : UInt8) (l : List UInt8) (h : l.contains c = true) : l.take (befC c l).length = befC c l ∧ l.drop ((befC c l).length + 1) = aftC c l ∧ (befC c l).length < l.length := by
  have hcat : befC c l ++ l.dropWhile (· != c) = l := List.takeWhile_append_dropWhile
  cases hq : l.dropWhile (· != c) with
  | nil =>
    rw [(drop_nil_iff c l).1 hq] at h
    cases h
  | cons x r =>
    rw [hq] at hcat
    have h1 := List.take_left' (l₁ := befC c l) (l₂ := x :: r) rfl
    have h2 : ((befC c l ++ [x]) ++ r) = l := by rw [List.append_assoc]; exact hcat
    have h3 := List.drop_left' (l₁ := befC c l ++ [x]) (l₂ := r) (i := (befC c l).length + 1) (by simp)
    rw [hcat] at h1
    rw [h2] at h3
    refine ⟨h1, ?_, ?_⟩
    · rw [h3]
      unfold aftC
      rw [hq]
      rfl
    · have := congrArg List.length hcat
      simp at this
      omega
theorem aro_ev (c : UInt8) (l : List UInt8) (hl : l.length ≤ 100000) (h : l.contains c = true) : ∃ k, semantic_splitAround.f k (By.ofL l) (By.ofL [c]) false = some (By.ofL (befC c l), By.ofL (aftC c l)) := by
  obtain ⟨k, hk⟩ := zs_ev c l (by omega)
  obtain ⟨h1, h2, h3⟩ := bef_cut c l h
  have hz : zsI c l = ((befC c l).length : Int) := by
    unfold zsI
    rw [if_neg fun h0 => by rw [(drop_nil_iff c l).1 h0] at h; cases h]
    rfl
  refine ⟨k, ?_⟩
  unfold semantic_splitAround.f
  have hk' : semantic_zzIndex.f k (By.ofL l) (By.ofL [c]) = some (zsI c l) := hk k (Nat.le_refl k)
  rw [if_neg Bool.false_ne_true, hk', hz]
  have hw : wrap64 (((befC c l).length : Int) + 1) = (((befC c l).length + 1 : Nat) : Int) := Evs.wrap_nat (by omega)
  rw [Option.bind_some, if_neg (by omega), if_pos (by omega), if_pos (by rw [By.ofL_size]; omega), hw, if_pos (by omega), if_pos (by rw [By.ofL_size]; omega), Int.toNat_natCast, Int.toNat_natCast, By.ofL_extract, By.ofL_extract, By.ofL_size, List.take_of_length_le (Nat.le_refl _), h2, h1]
  rfl
theorem up_cat (l : List UInt8) (h : l.contains 45 = true) : upC l ++ 45 :: rvC l = l ∧ (rvC l).contains 45 = false := by
  have hr : l.reverse.contains 45 = true := by simpa using h
  have hcat : l.reverse.takeWhile (· != 45) ++ l.reverse.dropWhile (· != 45) = l.reverse := List.takeWhile_append_dropWhile
  have hno : ∀ m : List UInt8, (m.takeWhile (· != 45)).contains 45 = false := by
    intro m
    cases hc : (m.takeWhile (· != 45)).contains 45 with
    | false => rfl
    | true =>
      rw [List.contains_iff_mem] at hc
      have := tw_mem _ _ _ hc
      simp at this
  cases hq : l.reverse.dropWhile (· != 45) with
  | nil =>
    rw [(drop_nil_iff 45 l.reverse).1 hq] at hr
    cases hr
  | cons x r =>
    have hx : x = 45 := by
      have := List.head?_dropWhile_not (fun c : UInt8 => c != 45) l.reverse
      rw [hq] at this
      simpa using this
    subst hx
    rw [hq] at hcat
    constructor
    · have := congrArg List.reverse hcat
      rw [List.reverse_reverse, List.reverse_append, List.reverse_cons] at this
      unfold upC rvC
      rw [hq]
      simpa using this
    · have := hno l.reverse
      unfold rvC
      rw [Bool.eq_false_iff] at this ⊢
      intro h2
      apply this
      rw [List.contains_iff_mem] at h2 ⊢
      exact List.mem_reverse.1 h2
theorem dat_of (l : List UInt8) (i : Nat) (h : i < l.length) : ((By.ofL l).data[i]!) = l[i]'h := by
  have : (By.ofL l).data = l.toArray := rfl
  rw [this]
  simp [h]
theorem li_up (l : List UInt8) (h : l.contains 45 = true) : Lib.lastIndexByte (By.ofL l) 45 = ((upC l).length : Int) := by
  obtain ⟨h1, h2⟩ := up_cat l h
  have hlen : (upC l).length + 1 + (rvC l).length = l.length := by
    have := congrArg List.length h1
    simp at this
    omega
  have hat : (upC l).length < l.length := by omega
  have e1 : (l[(upC l).length]'hat) = 45 := by
    have : (upC l ++ 45 :: rvC l)[(upC l).length]? = some 45 := by rw [List.getElem?_append_right (Nat.le_refl _), Nat.sub_self]; rfl
    rw [h1, List.getElem?_eq_getElem hat] at this
    exact Option.some.inj this
  rcases Lib.lastIndexByte_spec (By.ofL l) 45 with ⟨_, h4⟩ | ⟨i, h3, h4, h5, h6⟩
  · have := h4 (upC l).length (by rw [By.ofL_size]; exact hat)
    rw [dat_of l _ hat, e1] at this
    exact absurd rfl this
  · rw [By.ofL_size] at h3 h6
    rw [dat_of l i h3] at h5
    rw [h4]
    rcases Nat.lt_trichotomy i (upC l).length with hi | hi | hi
    · have := h6 (upC l).length hi hat
      rw [dat_of l _ hat, e1] at this
      exact absurd rfl this
    · rw [hi]
    · have hb : (rvC l)[i - (upC l).length - 1]? = some (l[i]'h3) := by
        have : (upC l ++ 45 :: rvC l)[i]? = some (l[i]'h3) := by rw [h1, List.getElem?_eq_getElem h3]
        rw [List.getElem?_append_right (by omega), show i - (upC l).length = (i - (upC l).length - 1) + 1 from by omega, List.getElem?_cons_succ] at this
        exact this
      have hm := List.mem_of_getElem? hb
      have hc : (l[i]'h3) = 45 := UInt8.toNat_inj.1 (by have : ((45 : UInt8).toNat) = 45 := rfl; omega)
      rw [hc] at hm
      have := List.contains_iff_mem.2 hm
      rw [h2] at this
      cases this
theorem arr_ev (l : List UInt8) (hl : l.length ≤ 100000) (h : l.contains 45 = true) : ∃ k, semantic_splitAround.f k (By.ofL l) (By.ofL [45]) true = some (By.ofL (upC l), By.ofL (rvC l)) := by
  obtain ⟨h1, h2⟩ := up_cat l h
  have hlen : (upC l).length + 1 + (rvC l).length = l.length := by
    have := congrArg List.length h1
    simp at this
    omega
  have hz : strings_LastIndex.f (By.ofL l) (By.ofL [45]) = some ((upC l).length : Int) := by
    unfold strings_LastIndex.f
    rw [dif_pos ⟨rfl, by rw [By.ofL_size]; omega⟩]
    exact congrArg some (li_up l h)
  have t1 : l.take (upC l).length = upC l := by
    have := List.take_left' (l₁ := upC l) (l₂ := 45 :: rvC l) rfl
    rw [h1] at this
    exact this
  have t2 : l.drop ((upC l).length + 1) = rvC l := by
    have e : (upC l ++ [45]) ++ rvC l = l := by rw [List.append_assoc]; exact h1
    have := List.drop_left' (l₁ := upC l ++ [45]) (l₂ := rvC l) (i := (upC l).length + 1) (by simp)
    rw [e] at this
    exact this
  refine ⟨0, ?_⟩
  unfold semantic_splitAround.f
  rw [if_pos rfl, hz]
  have hw : wrap64 (((upC l).length : Int) + 1) = (((upC l).length + 1 : Nat) : Int) := Evs.wrap_nat (by omega)
  rw [Option.bind_some, if_neg (by omega), if_pos (by omega), if_pos (by rw [By.ofL_size]; omega), hw, if_pos (by omega), if_pos (by rw [By.ofL_size]; omega), Int.toNat_natCast, Int.toNat_natCast, By.ofL_extract, By.ofL_extract, By.ofL_size, List.take_of_length_le (Nat.le_refl _), t2, t1]
  rfl
theorem trim_asc {l : List UInt8} (h : Asc l) : Asc (Lib.trimSpace l) := by
  have hs : (Lib.trimSpace l).length ≤ l.length ∧ ∀ c ∈ Lib.trimSpace l, c ∈ l := by
    unfold Lib.trimSpace
    refine ⟨?_, fun c hc => ?_⟩
    · rw [List.length_reverse]
      refine Nat.le_trans (List.dropWhile_sublist _).length_le ?_
      rw [List.length_reverse]
      exact (List.dropWhile_sublist _).length_le
    · rw [List.mem_reverse] at hc
      have := (List.dropWhile_sublist _).subset hc
      rw [List.mem_reverse] at this
      exact (List.dropWhile_sublist _).subset this
  exact ⟨Nat.le_trans hs.1 h.1, fun c hc => h.2 c (hs.2 c hc)⟩
theorem bef_asc {c : UInt8} {l : List UInt8} (h : Asc l) : Asc (befC c l) := ⟨Nat.le_trans (List.takeWhile_sublist _).length_le h.1, fun x hx => h.2 x ((List.takeWhile_sublist _).subset hx)⟩
theorem aft_asc {c : UInt8} {l : List UInt8} (h : Asc l) : Asc (aftC c l) := by
  have hs : (aftC c l).Sublist l := (List.tail_sublist _).trans (List.dropWhile_sublist _)
  exact ⟨Nat.le_trans hs.length_le h.1, fun x hx => h.2 x (hs.subset hx)⟩
theorem up_asc {l : List UInt8} (h : Asc l) : Asc (upC l) ∧ Asc (rvC l) := by
  have h1 : ∀ x ∈ upC l, x ∈ l := fun x hx => by
    unfold upC at hx
    rw [List.mem_reverse] at hx
    have := ((List.tail_sublist _).trans (List.dropWhile_sublist _)).subset hx
    rwa [List.mem_reverse] at this
  have h2 : ∀ x ∈ rvC l, x ∈ l := fun x hx => by
    unfold rvC at hx
    rw [List.mem_reverse] at hx
    have := (List.takeWhile_sublist _).subset hx
    rwa [List.mem_reverse] at this
  refine ⟨⟨?_, fun x hx => h.2 x (h1 x hx)⟩, ?_, fun x hx => h.2 x (h2 x hx)⟩
  · unfold upC
    rw [List.length_reverse]
    refine Nat.le_trans ((List.tail_sublist _).trans (List.dropWhile_sublist _)).length_le ?_
    rw [List.length_reverse]
    exact h.1
  · unfold rvC
    rw [List.length_reverse]
    refine Nat.le_trans (List.takeWhile_sublist _).length_le ?_
    rw [List.length_reverse]
    exact h.1
theorem dbS_asc {r : List UInt8} (h : Asc r) : Asc (dbS r).1 ∧ Asc (dbS r).2 := by
  unfold dbS
  split
  · exact up_asc h
  · exact ⟨h, by simp, fun c hc => by rw [List.mem_singleton.1 hc]; decide⟩
theorem dbp_asc {l : List UInt8} (h : Asc l) {z : Int} {u v : List UInt8} (hp : dbp l = some (z, u, v)) : Asc u ∧ Asc v := by
  unfold dbp at hp
  split at hp
  · obtain ⟨y, _, hy⟩ := Option.map_eq_some_iff.1 hp
    have := dbS_asc (aft_asc (c := 58) (trim_asc h))
    simp only [Prod.mk.injEq] at hy
    rw [hy.2] at this
    exact this
  · have := dbS_asc (trim_asc h)
    simp only [Option.some.injEq, Prod.mk.injEq] at hp
    rw [hp.2] at this
    exact this
/-! the block of a Debian version -/
def sv3 (W : World) (b : Nat) (u : Value) (s v : ByteArray) : World := ((W.setCell ⟨b, 0, none⟩ u).setCell ⟨b, 1, none⟩ (.string s)).setCell ⟨b, 2, none⟩ (.string v)
theorem sv3_blk {W : World} {b : Nat} {u u' : Value} {s v s' v' : ByteArray} {t : TypeId} (h : W.heap[b]? = some (.cells #[u', .string s', .string v'] t (0, 0))) : (sv3 W b u s v).heap[b]? = some (.cells #[u, .string s, .string v] t (0, 0)) :=
  blk_put (cs := #[u, .string s, .string v']) (blk_put (cs := #[u, .string s', .string v']) (blk_put h 0 _ rfl) 1 _ rfl) 2 _ rfl
theorem sv3_far {W : World} {b g : Nat} {u : Value} {s v : ByteArray} (hg : g ≠ b) : (sv3 W b u s v).heap[g]? = W.heap[g]? := by
  unfold sv3
  rw [Below.heap_setCell _ _ _ _ hg, Below.heap_setCell _ _ _ _ hg, Below.heap_setCell _ _ _ _ hg]
theorem sv3_below {w W : World} {b : Nat} {u : Value} {s v : ByteArray} (h : Below w.heap.size w W) (hb : w.heap.size ≤ b) : Below w.heap.size w (sv3 W b u s v) := by
  have hs : ∀ {X : World} {j : Nat} {y : Value}, Below w.heap.size w X → Below w.heap.size w (X.setCell ⟨b, j, none⟩ y) := fun {X j y} hx => hx.setCell (p := ⟨b, j, none⟩) hb y
  exact hs (hs (hs h))
theorem blk_keep' {W W' : World} {g : Nat} {o : Obj} (hb : Below W.heap.size W W') (h : W.heap[g]? = some o) : W'.heap[g]? = some o := (hb.block g (Array.getElem?_eq_some_iff.1 h).1).trans h
theorem own_keep {W W' : World} {base : Nat} {z : Int} {v : Value} (h : Big.Own W base (fun _ => True) z v) (hk : ∀ k, base ≤ k → k < W.heap.size → W'.heap[k]? = W.heap[k]?) : Big.Own W' base (fun _ => True) z v :=
  Big.Own.mono (fun _ _ => trivial) (Big.Own.move (fun k hk' => hk k hk'.2.1 hk'.2.2.1) (Big.Own.bound h))
theorem own_below {W W' : World} {base : Nat} {z : Int} {v : Value} (h : Big.Own W base (fun _ => True) z v) (hb : Below W.heap.size W W') : Big.Own W' base (fun _ => True) z v := own_keep h fun k _ hk => hb.block k hk
theorem own_sv3 {W : World} {base b : Nat} {z : Int} {x u : Value} {s v : ByteArray} (h : Big.Own W base (fun _ => True) z x) (hb : b < base) : Big.Own (sv3 W b u s v) base (fun _ => True) z x := own_keep h fun k hk _ => sv3_far (by omega)
/-- What ParseDebianVersion hands back. -/
def DvP (l : List UInt8) (w : World) (e : Ending) (w' : World) : Prop := Below w.heap.size w w' ∧
  ((dbp l = none ∧ ∃ a, e = .returned (.tuple #[.agg #[.pointer none, .string ⟨#[]⟩, .string ⟨#[]⟩], Ss.EV a])) ∨
   (∃ (z : Int) (u v : List UInt8) (o : Nat), dbp l = some (z, u, v) ∧ e = .returned (.tuple #[.agg #[.pointer (some ⟨o, 0, none⟩), .string (By.ofL u), .string (By.ofL v)], .nilIface]) ∧ Big.At w' z (.pointer (some ⟨o, 0, none⟩))))
theorem bytes_below (W : World) (t : TypeId) (s : ByteArray) : Below W.heap.size W (Lib.bytesWorld W t s) := ⟨rfl, rfl, rfl, by rw [Lib.bytesWorld_size]; omega, fun k hk => Lib.bytesWorld_at_old W t s k hk⟩
attribute [local go_sem] Ss.EV
set_option maxRecDepth 100000 in
set_option maxHeartbeats 8000000 in
theorem db_parse (l : List UInt8) (w : World) (hl : Asc l) (hG : GW w) : Calls Tryd.prog 29 #[.string (By.ofL l)] w (DvP l w) := by
  obtain ⟨WA, hWA⟩ : ∃ WA, w.alloc (.cells #[.pointer none, .string ⟨#[]⟩, .string ⟨#[]⟩] 50) = WA := ⟨_, rfl⟩
  have hBA : Below w.heap.size w WA := by rw [← hWA]; exact (Below.refl _ _).alloc (Nat.le_refl _) _
  have HRA : Aside0 (WA.heap[w.heap.size]? = some (.cells #[.pointer none, .string ⟨#[]⟩, .string ⟨#[]⟩] 50 (0, 0))) := ⟨by rw [← hWA]; exact blk_new w _⟩
  have HSZ : Aside0 (w.heap.size < WA.heap.size) := ⟨by rw [← hWA]; simp⟩
  have HG : Aside0 (∀ W, Below WA.heap.size WA W → Gw.GW W) := ⟨fun W h => Gw.GW.below hG (hBA.trans (h.mono hBA.size))⟩
  have HBA := Aside0.mk hBA
  obtain ⟨t, ht⟩ : ∃ t, t = Lib.trimSpace l := ⟨_, rfl⟩
  have hta : Asc t := by rw [ht]; exact trim_asc hl
  obtain ⟨s, hs⟩ : ∃ s, s = By.ofL l := ⟨_, rfl⟩
  obtain ⟨st, hst⟩ : ∃ st, st = By.ofL t := ⟨_, rfl⟩
  have HT : Aside0 (∀ W, Below WA.heap.size WA W → Calls Tryd.prog 41 #[.string s] W fun e w' => e = .returned (.string st) ∧ Below W.heap.size W w') := ⟨fun W hB => by
    have hr : (⟨(Lib.trimSpace s.data.toList).toArray⟩ : ByteArray) = st := by rw [hst, ht, hs]; rfl
    refine (Tryd.strings_TrimSpace s W (by rw [hs, By.ofL_size]; have := hl.1; omega) (fun j b hj => by rw [hs] at hj; exact hl.2 b (List.mem_of_getElem? hj)) (HG.out W hB).2).mono ?_
    rintro e w' ⟨rfl, rfl⟩
    rw [hr]
    exact ⟨rfl, bytes_below W _ s⟩⟩
  have HNEW : Aside0 (∀ W, Below WA.heap.size WA W → Calls Tryd.prog 42 #[.int .i64 0] W fun e w' => ∃ o : Nat, e = .returned (.pointer (some ⟨o, 0, none⟩)) ∧ Big.Own w' WA.heap.size (fun _ => True) 0 (.pointer (some ⟨o, 0, none⟩)) ∧ Below W.heap.size W w') := ⟨fun W hB => by
    refine (db_New0 W).mono ?_
    rintro e w' ⟨o, rfl, h2, h3⟩
    exact ⟨o, rfl, Big.Own.lower hB.size h2, h3⟩⟩
  have HHAS : Aside0 (∀ (c : UInt8) (q : List UInt8), Asc q → ∀ W, Below WA.heap.size WA W → Calls Tryd.prog 43 #[.string (By.ofL q), .string (By.ofL [c])] W fun e w' => e = .returned (.bool (q.contains c)) ∧ Below W.heap.size W w') := ⟨fun c q hq W hB => by
    obtain ⟨k, hk⟩ := has_ev c q hq.1
    refine (semantic_zzContains.calls k _ _ _ W hk).mono ?_
    rintro e w' ⟨rfl, n, rfl⟩
    exact ⟨rfl, pw_below_drewN (Below.refl _ _) n⟩⟩
  have hu := Tryd.underlying50
  have HC1 := HHAS.out 58 t hta
  rw [← hst] at HC1
  have HC1' : Aside0 (∀ W, Below WA.heap.size WA W → Calls Tryd.prog 43 #[.string st, .string ⟨#[58]⟩] W fun e w' => e = .returned (.bool (t.contains 58)) ∧ Below W.heap.size W w') := ⟨HC1⟩
  clear HC1 hG hBA
  rw [← hs]
  by_cases hb1 : t.contains 58 = true
  · obtain ⟨q, hq⟩ : ∃ q, q = aftC 58 t := ⟨_, rfl⟩
    obtain ⟨sE, hsE⟩ : ∃ s, s = By.ofL (befC 58 t) := ⟨_, rfl⟩
    obtain ⟨sQ, hsQ⟩ : ∃ s, s = By.ofL q := ⟨_, rfl⟩
    have HASR : Aside0 (Asc q) := ⟨by rw [hq]; exact aft_asc hta⟩
    have HRL : Aside0 (sQ = By.ofL q) := ⟨hsQ⟩
    have HS1 : Aside0 (∀ W, Below WA.heap.size WA W → Calls Tryd.prog 44 #[.string st, .string ⟨#[58]⟩, .bool false] W fun e w' => e = .returned (.tuple #[.string sE, .string sQ]) ∧ Below W.heap.size W w') := ⟨fun W hB => by
      obtain ⟨k, hk⟩ := aro_ev 58 t hta.1 hb1
      rw [← hst, ← hsE, ← hq, ← hsQ] at hk
      exact semantic_splitAround.calls k _ _ _ _ _ W hk⟩
    have HCV : Aside0 (∀ W, Below WA.heap.size WA W → Calls Tryd.prog 45 #[.string sE] W (Ss.CvP sE W)) := ⟨fun W hB => Ss.ss_convert sE W (by rw [hsE, By.ofL_size]; have := (bef_asc (c := 58) hta).1; omega) (HG.out W hB).1⟩
    have HDV : Aside0 (dbp l = (Ss.cvt sE).map fun z => (z, dbS q)) := ⟨by unfold dbp; rw [← ht, if_pos hb1, ← hsE, ← hq]⟩
    rw [hb1] at HC1'
    clear hq hsE hsQ hb1 hta hs hst ht hl
    go_enter Tryd.func29, Tryd.ntmps29
    go_wp2_with (go_at_call 41; (with_reducible refine (HT.out _ (Below.refl _ _)).mono ?_))
    rintro e WB ⟨rfl, hb⟩
    have HBB := Aside0.mk hb
    clear hb
    go_wp2_with (go_at_call 42; (with_reducible refine (HNEW.out _ HBB.out).mono ?_))
    rintro e WC ⟨o0, rfl, _, hb⟩
    have HBC : Aside0 (Below WA.heap.size WA WC) := ⟨HBB.out.trans (hb.mono HBB.out.size)⟩
    clear hb
    go_wp2_with (go_at_call 43; (with_reducible refine (HC1'.out _ HBC.out).mono ?_))
    rintro e WD ⟨rfl, hb⟩
    have HBD : Aside0 (Below WA.heap.size WA WD) := ⟨HBC.out.trans (hb.mono HBC.out.size)⟩
    clear hb
    go_wp2_with (go_at_call 44; (with_reducible refine (HS1.out _ HBD.out).mono ?_))
    rintro e WE ⟨rfl, hb⟩
    have HBE : Aside0 (Below WA.heap.size WA WE) := ⟨HBD.out.trans (hb.mono HBD.out.size)⟩
    clear hb
    go_wp2_with (go_at_call 45; (with_reducible refine (HCV.out _ HBE.out).mono ?_))
    rintro e WF ⟨hb, hcase⟩
    have HBF : Aside0 (Below WA.heap.size WA WF) := ⟨HBE.out.trans (hb.mono HBE.out.size)⟩
    clear hb
    rcases hcase with ⟨hn, a, rfl⟩ | ⟨z, o, hz, rfl, hO⟩
    · have HDN : Aside0 (dbp l = none) := ⟨by rw [HDV.out, hn]; rfl⟩
      clear hn
      have hblk := blk_keep' HBF.out HRA.out
      have f0 := blk_frozen hblk 0
      have f1 := blk_frozen hblk 1
      have f2 := blk_frozen hblk 2
      have d0 := (blk_cell hblk 0).trans rfl
      have d1 := (blk_cell hblk 1).trans rfl
      have d2 := (blk_cell hblk 2).trans rfl
      obtain ⟨w3, hw3⟩ : ∃ w3, sv3 WF w.heap.size (.pointer none) ⟨#[]⟩ ⟨#[]⟩ = w3 := ⟨_, rfl⟩
      have hq : w3.heap[w.heap.size]? = some (.cells #[.pointer none, .string ⟨#[]⟩, .string ⟨#[]⟩] 50 (0, 0)) := by rw [← hw3]; exact sv3_blk hblk
      have HBW : Aside0 (Below w.heap.size w w3) := ⟨by rw [← hw3]; exact sv3_below (HBA.out.trans (HBF.out.mono HBA.out.size)) (Nat.le_refl _)⟩
      have p0 := (blk_cell hq 0).trans rfl
      have p1 := (blk_cell hq 1).trans rfl
      have p2 := (blk_cell hq 2).trans rfl
      unfold sv3 at hw3
      clear hblk hq
      go_wp2
      exact bodyPost_ret (v := .tuple #[.agg #[.pointer none, .string ⟨#[]⟩, .string ⟨#[]⟩], Ss.EV a]) (by simp [results, Tryd.results29, go_sem, p0, p1, p2, Tryd.underlying50]) rfl ⟨HBW.out, .inl ⟨HDN.out, a, rfl⟩⟩
    · have HDBP : Aside0 (dbp l = some (z, dbS q)) := ⟨by rw [HDV.out, hz]; rfl⟩
      have HOF : Aside0 (Big.Own WF WA.heap.size (fun _ => True) z (.pointer (some ⟨o, 0, none⟩))) := ⟨Big.Own.lower HBE.out.size hO⟩
      clear hz hO HDV
      have HC2 := HHAS.out 45 q HASR.out
      rw [← HRL.out] at HC2
      have HC2' : Aside0 (∀ W, Below WA.heap.size WA W → Calls Tryd.prog 43 #[.string sQ, .string ⟨#[45]⟩] W fun e w' => e = .returned (.bool (q.contains 45)) ∧ Below W.heap.size W w') := ⟨HC2⟩
      clear HC2
      by_cases hb2 : q.contains 45 = true
      · obtain ⟨sU, hsU⟩ : ∃ s, s = By.ofL (upC q) := ⟨_, rfl⟩
        obtain ⟨sV, hsV⟩ : ∃ s, s = By.ofL (rvC q) := ⟨_, rfl⟩
        have HS2 : Aside0 (∀ W, Below WA.heap.size WA W → Calls Tryd.prog 44 #[.string sQ, .string ⟨#[45]⟩, .bool true] W fun e w' => e = .returned (.tuple #[.string sU, .string sV]) ∧ Below W.heap.size W w') := ⟨fun W hB => by
          obtain ⟨k, hk⟩ := arr_ev q HASR.out.1 hb2
          rw [← HRL.out, ← hsU, ← hsV] at hk
          exact semantic_splitAround.calls k _ _ _ _ _ W hk⟩
        have HDB : Aside0 (dbp l = some (z, upC q, rvC q) ∧ sU = By.ofL (upC q) ∧ sV = By.ofL (rvC q)) := ⟨by rw [HDBP.out]; unfold dbS; rw [if_pos hb2], hsU, hsV⟩
        rw [hb2] at HC2'
        clear hsU hsV hb2 HDBP
        go_wp2_with (go_at_call 43; (with_reducible refine (HC2'.out _ HBF.out).mono ?_))
        rintro e WX1 ⟨rfl, hx1⟩
        have HBX1 : Aside0 (Below WA.heap.size WA WX1) := ⟨HBF.out.trans (hx1.mono HBF.out.size)⟩
        have HOX1 := Aside0.mk (own_below HOF.out hx1)
        clear hx1
        go_wp2_with (go_at_call 44; (with_reducible refine (HS2.out _ HBX1.out).mono ?_))
        rintro e WX2 ⟨rfl, hx2⟩
        have HBX2 : Aside0 (Below WA.heap.size WA WX2) := ⟨HBX1.out.trans (hx2.mono HBX1.out.size)⟩
        have HOX2 := Aside0.mk (own_below HOX1.out hx2)
        clear hx2
        have hblk := blk_keep' HBX2.out HRA.out
        have f0 := blk_frozen hblk 0
        have f1 := blk_frozen hblk 1
        have f2 := blk_frozen hblk 2
        have d0 := (blk_cell hblk 0).trans rfl
        have d1 := (blk_cell hblk 1).trans rfl
        have d2 := (blk_cell hblk 2).trans rfl
        obtain ⟨w3, hw3⟩ : ∃ w3, sv3 WX2 w.heap.size (.pointer (some ⟨o, 0, none⟩)) sU sV = w3 := ⟨_, rfl⟩
        have hq : w3.heap[w.heap.size]? = some (.cells #[.pointer (some ⟨o, 0, none⟩), .string sU, .string sV] 50 (0, 0)) := by rw [← hw3]; exact sv3_blk hblk
        have HBW : Aside0 (Below w.heap.size w w3) := ⟨by rw [← hw3]; exact sv3_below (HBA.out.trans (HBX2.out.mono HBA.out.size)) (Nat.le_refl _)⟩
        have HAT3 : Aside0 (Big.At w3 z (.pointer (some ⟨o, 0, none⟩))) := ⟨by
          rw [← hw3]
          exact (own_sv3 HOX2.out HSZ.out).at_⟩
        have p0 := (blk_cell hq 0).trans rfl
        have p1 := (blk_cell hq 1).trans rfl
        have p2 := (blk_cell hq 2).trans rfl
        unfold sv3 at hw3
        clear hblk hq
        go_wp2
        exact bodyPost_ret (v := .tuple #[.agg #[.pointer (some ⟨o, 0, none⟩), .string sU, .string sV], .nilIface]) (by simp [results, Tryd.results29, go_sem, p0, p1, p2, Tryd.underlying50]) rfl ⟨HBW.out, .inr ⟨z, _, _, o, HDB.out.1, by rw [HDB.out.2.1, HDB.out.2.2], HAT3.out⟩⟩
      · have hb3 : q.contains 45 = false := by simpa using hb2
        have HDB : Aside0 (dbp l = some (z, q, [48]) ∧ sQ = By.ofL q ∧ (⟨#[48]⟩ : ByteArray) = By.ofL [48]) := ⟨by rw [HDBP.out]; unfold dbS; rw [if_neg hb2], HRL.out, rfl⟩
        rw [hb3] at HC2'
        clear hb2 hb3 HDBP
        go_wp2_with (go_at_call 43; (with_reducible refine (HC2'.out _ HBF.out).mono ?_))
        rintro e WX1 ⟨rfl, hx1⟩
        have HBX1 : Aside0 (Below WA.heap.size WA WX1) := ⟨HBF.out.trans (hx1.mono HBF.out.size)⟩
        have HOX1 := Aside0.mk (own_below HOF.out hx1)
        clear hx1
        have hblk := blk_keep' HBX1.out HRA.out
        have f0 := blk_frozen hblk 0
        have f1 := blk_frozen hblk 1
        have f2 := blk_frozen hblk 2
        have d0 := (blk_cell hblk 0).trans rfl
        have d1 := (blk_cell hblk 1).trans rfl
        have d2 := (blk_cell hblk 2).trans rfl
        obtain ⟨w3, hw3⟩ : ∃ w3, sv3 WX1 w.heap.size (.pointer (some ⟨o, 0, none⟩)) sQ ⟨#[48]⟩ = w3 := ⟨_, rfl⟩
        have hq : w3.heap[w.heap.size]? = some (.cells #[.pointer (some ⟨o, 0, none⟩), .string sQ, .string ⟨#[48]⟩] 50 (0, 0)) := by rw [← hw3]; exact sv3_blk hblk
        have HBW : Aside0 (Below w.heap.size w w3) := ⟨by rw [← hw3]; exact sv3_below (HBA.out.trans (HBX1.out.mono HBA.out.size)) (Nat.le_refl _)⟩
        have HAT3 : Aside0 (Big.At w3 z (.pointer (some ⟨o, 0, none⟩))) := ⟨by
          rw [← hw3]
          exact (own_sv3 HOX1.out HSZ.out).at_⟩
        have p0 := (blk_cell hq 0).trans rfl
        have p1 := (blk_cell hq 1).trans rfl
        have p2 := (blk_cell hq 2).trans rfl
        unfold sv3 at hw3
        clear hblk hq
        go_wp2
        exact bodyPost_ret (v := .tuple #[.agg #[.pointer (some ⟨o, 0, none⟩), .string sQ, .string ⟨#[48]⟩], .nilIface]) (by simp [results, Tryd.results29, go_sem, p0, p1, p2, Tryd.underlying50]) rfl ⟨HBW.out, .inr ⟨z, _, _, o, HDB.out.1, by rw [HDB.out.2.1, HDB.out.2.2], HAT3.out⟩⟩
  · have hb2 : t.contains 58 = false := by simpa using hb1
    have HASR : Aside0 (Asc t) := ⟨hta⟩
    have HRL : Aside0 (st = By.ofL t) := ⟨hst⟩
    obtain ⟨z, hz0⟩ : ∃ z : Int, z = 0 := ⟨_, rfl⟩
    have HDBP : Aside0 (dbp l = some (z, dbS t)) := ⟨by unfold dbp; rw [← ht, if_neg hb1, hz0]⟩
    have HZ0 := Aside0.mk hz0
    rw [hb2] at HC1'
    clear hb1 hb2 hta hs hst ht hl hz0
    go_enter Tryd.func29, Tryd.ntmps29
    go_wp2_with (go_at_call 41; (with_reducible refine (HT.out _ (Below.refl _ _)).mono ?_))
    rintro e WB ⟨rfl, hb⟩
    have HBB := Aside0.mk hb
    clear hb
    go_wp2_with (go_at_call 42; (with_reducible refine (HNEW.out _ HBB.out).mono ?_))
    rintro e WC ⟨o0, rfl, ho, hb⟩
    have HBC : Aside0 (Below WA.heap.size WA WC) := ⟨HBB.out.trans (hb.mono HBB.out.size)⟩
    have HOC : Aside0 (Big.Own WC WA.heap.size (fun _ => True) z (.pointer (some ⟨o0, 0, none⟩))) := ⟨by rw [HZ0.out]; exact ho⟩
    clear hb ho
    go_wp2_with (go_at_call 43; (with_reducible refine (HC1'.out _ HBC.out).mono ?_))
    rintro e WD ⟨rfl, hb⟩
    have HBD : Aside0 (Below WA.heap.size WA WD) := ⟨HBC.out.trans (hb.mono HBC.out.size)⟩
    have HOD := Aside0.mk (own_below HOC.out hb)
    clear hb
    have HC2 := HHAS.out 45 t HASR.out
    rw [← HRL.out] at HC2
    have HC2' : Aside0 (∀ W, Below WA.heap.size WA W → Calls Tryd.prog 43 #[.string st, .string ⟨#[45]⟩] W fun e w' => e = .returned (.bool (t.contains 45)) ∧ Below W.heap.size W w') := ⟨HC2⟩
    clear HC2
    by_cases hb2 : t.contains 45 = true
    · obtain ⟨sU, hsU⟩ : ∃ s, s = By.ofL (upC t) := ⟨_, rfl⟩
      obtain ⟨sV, hsV⟩ : ∃ s, s = By.ofL (rvC t) := ⟨_, rfl⟩
      have HS2 : Aside0 (∀ W, Below WA.heap.size WA W → Calls Tryd.prog 44 #[.string st, .string ⟨#[45]⟩, .bool true] W fun e w' => e = .returned (.tuple #[.string sU, .string sV]) ∧ Below W.heap.size W w') := ⟨fun W hB => by
        obtain ⟨k, hk⟩ := arr_ev t HASR.out.1 hb2
        rw [← HRL.out, ← hsU, ← hsV] at hk
        exact semantic_splitAround.calls k _ _ _ _ _ W hk⟩
      have HDB : Aside0 (dbp l = some (z, upC t, rvC t) ∧ sU = By.ofL (upC t) ∧ sV = By.ofL (rvC t)) := ⟨by rw [HDBP.out]; unfold dbS; rw [if_pos hb2], hsU, hsV⟩
      rw [hb2] at HC2'
      clear hsU hsV hb2 HDBP
      go_wp2_with (go_at_call 43; (with_reducible refine (HC2'.out _ HBD.out).mono ?_))
      rintro e WX1 ⟨rfl, hx1⟩
      have HBX1 : Aside0 (Below WA.heap.size WA WX1) := ⟨HBD.out.trans (hx1.mono HBD.out.size)⟩
      have HOX1 := Aside0.mk (own_below HOD.out hx1)
      clear hx1
      go_wp2_with (go_at_call 44; (with_reducible refine (HS2.out _ HBX1.out).mono ?_))
      rintro e WX2 ⟨rfl, hx2⟩
      have HBX2 : Aside0 (Below WA.heap.size WA WX2) := ⟨HBX1.out.trans (hx2.mono HBX1.out.size)⟩
      have HOX2 := Aside0.mk (own_below HOX1.out hx2)
      clear hx2
      have hblk := blk_keep' HBX2.out HRA.out
      have f0 := blk_frozen hblk 0
      have f1 := blk_frozen hblk 1
      have f2 := blk_frozen hblk 2
      have d0 := (blk_cell hblk 0).trans rfl
      have d1 := (blk_cell hblk 1).trans rfl
      have d2 := (blk_cell hblk 2).trans rfl
      obtain ⟨w3, hw3⟩ : ∃ w3, sv3 WX2 w.heap.size (.pointer (some ⟨o0, 0, none⟩)) sU sV = w3 := ⟨_, rfl⟩
      have hq : w3.heap[w.heap.size]? = some (.cells #[.pointer (some ⟨o0, 0, none⟩), .string sU, .string sV] 50 (0, 0)) := by rw [← hw3]; exact sv3_blk hblk
      have HBW : Aside0 (Below w.heap.size w w3) := ⟨by rw [← hw3]; exact sv3_below (HBA.out.trans (HBX2.out.mono HBA.out.size)) (Nat.le_refl _)⟩
      have HAT3 : Aside0 (Big.At w3 z (.pointer (some ⟨o0, 0, none⟩))) := ⟨by
        rw [← hw3]
        exact (own_sv3 HOX2.out HSZ.out).at_⟩
      have p0 := (blk_cell hq 0).trans rfl
      have p1 := (blk_cell hq 1).trans rfl
      have p2 := (blk_cell hq 2).trans rfl
      unfold sv3 at hw3
      clear hblk hq
      go_wp2
      exact bodyPost_ret (v := .tuple #[.agg #[.pointer (some ⟨o0, 0, none⟩), .string sU, .string sV], .nilIface]) (by simp [results, Tryd.results29, go_sem, p0, p1, p2, Tryd.underlying50]) rfl ⟨HBW.out, .inr ⟨z, _, _, o0, HDB.out.1, by rw [HDB.out.2.1, HDB.out.2.2], HAT3.out⟩⟩
    · have hb3 : t.contains 45 = false := by simpa using hb2
      have HDB : Aside0 (dbp l = some (z, t, [48]) ∧ st = By.ofL t ∧ (⟨#[48]⟩ : ByteArray) = By.ofL [48]) := ⟨by rw [HDBP.out]; unfold dbS; rw [if_neg hb2], HRL.out, rfl⟩
      rw [hb3] at HC2'
      clear hb2 hb3 HDBP
      go_wp2_with (go_at_call 43; (with_reducible refine (HC2'.out _ HBD.out).mono ?_))
      rintro e WX1 ⟨rfl, hx1⟩
      have HBX1 : Aside0 (Below WA.heap.size WA WX1) := ⟨HBD.out.trans (hx1.mono HBD.out.size)⟩
      have HOX1 := Aside0.mk (own_below HOD.out hx1)
      clear hx1
      have hblk := blk_keep' HBX1.out HRA.out
      have f0 := blk_frozen hblk 0
      have f1 := blk_frozen hblk 1
      have f2 := blk_frozen hblk 2
      have d0 := (blk_cell hblk 0).trans rfl
      have d1 := (blk_cell hblk 1).trans rfl
      have d2 := (blk_cell hblk 2).trans rfl
      obtain ⟨w3, hw3⟩ : ∃ w3, sv3 WX1 w.heap.size (.pointer (some ⟨o0, 0, none⟩)) st ⟨#[48]⟩ = w3 := ⟨_, rfl⟩
      have hq : w3.heap[w.heap.size]? = some (.cells #[.pointer (some ⟨o0, 0, none⟩), .string st, .string ⟨#[48]⟩] 50 (0, 0)) := by rw [← hw3]; exact sv3_blk hblk
      have HBW : Aside0 (Below w.heap.size w w3) := ⟨by rw [← hw3]; exact sv3_below (HBA.out.trans (HBX1.out.mono HBA.out.size)) (Nat.le_refl _)⟩
      have HAT3 : Aside0 (Big.At w3 z (.pointer (some ⟨o0, 0, none⟩))) := ⟨by
        rw [← hw3]
        exact (own_sv3 HOX1.out HSZ.out).at_⟩
      have p0 := (blk_cell hq 0).trans rfl
      have p1 := (blk_cell hq 1).trans rfl
      have p2 := (blk_cell hq 2).trans rfl
      unfold sv3 at hw3
      clear hblk hq
      go_wp2
      exact bodyPost_ret (v := .tuple #[.agg #[.pointer (some ⟨o0, 0, none⟩), .string st, .string ⟨#[48]⟩], .nilIface]) (by simp [results, Tryd.results29, go_sem, p0, p1, p2, Tryd.underlying50]) rfl ⟨HBW.out, .inr ⟨z, _, _, o0, HDB.out.1, by rw [HDB.out.2.1, HDB.out.2.2], HAT3.out⟩⟩
/-! versions compared -/
abbrev DbV : Type := Int × List UInt8 × List UInt8
def dvC (x y : DbV) : Int := if Bn.cmpZ x.1 y.1 = 0 then (if dbP x.2.1 y.2.1 = 0 then dbP x.2.2 y.2.2 else dbP x.2.1 y.2.1) else Bn.cmpZ x.1 y.1
/-- The boxes of both versions. -/
structure DvB (g h : Nat) (o o' : Nat) (a b a' b' : ByteArray) (W : World) : Prop where
  b1 : W.heap[g]? = some (.cells #[.pointer (some ⟨o, 0, none⟩), .string a, .string b] 50 (0, 0))
  b2 : W.heap[h]? = some (.cells #[.pointer (some ⟨o', 0, none⟩), .string a', .string b'] 50 (0, 0))
theorem DvB.below {g h o o' : Nat} {a b a' b' : ByteArray} {W W' : World} (H : DvB g h o o' a b a' b' W) (hb : Below W.heap.size W W') : DvB g h o o' a b a' b' W' := ⟨blk_keep' hb H.b1, blk_keep' hb H.b2⟩
theorem DvB.cells {g h o o' : Nat} {a b a' b' : ByteArray} {W : World} (H : DvB g h o o' a b a' b' W) :
    W.cell? ⟨g, 0, none⟩ = some (.pointer (some ⟨o, 0, none⟩)) ∧ W.cell? ⟨g, 1, none⟩ = some (.string a) ∧ W.cell? ⟨g, 2, none⟩ = some (.string b) ∧
    W.cell? ⟨h, 0, none⟩ = some (.pointer (some ⟨o', 0, none⟩)) ∧ W.cell? ⟨h, 1, none⟩ = some (.string a') ∧ W.cell? ⟨h, 2, none⟩ = some (.string b') :=
  ⟨(blk_cell H.b1 0).trans rfl, (blk_cell H.b1 1).trans rfl, (blk_cell H.b1 2).trans rfl, (blk_cell H.b2 0).trans rfl, (blk_cell H.b2 1).trans rfl, (blk_cell H.b2 2).trans rfl⟩
set_option maxRecDepth 100000 in
set_option maxHeartbeats 8000000 in
theorem db_compare (x y : DbV) (o o' : Nat) (w : World) (hx : Asc x.2.1 ∧ Asc x.2.2) (hy : Asc y.2.1 ∧ Asc y.2.2) (hz : Big.At w x.1 (.pointer (some ⟨o, 0, none⟩))) (hz' : Big.At w y.1 (.pointer (some ⟨o', 0, none⟩))) (hG : GW w) :
    Calls Tryd.prog 46 #[.agg #[.pointer (some ⟨o, 0, none⟩), .string (By.ofL x.2.1), .string (By.ofL x.2.2)], .agg #[.pointer (some ⟨o', 0, none⟩), .string (By.ofL y.2.1), .string (By.ofL y.2.2)]] w fun e w' => e = .returned (.tuple #[.int .i64 (dvC x y), .nilIface]) ∧ Below w.heap.size w w' := by
  obtain ⟨R, hR⟩ : ∃ R, R = dvC x y := ⟨_, rfl⟩
  obtain ⟨Z, hZ⟩ : ∃ Z, Z = Bn.cmpZ x.1 y.1 := ⟨_, rfl⟩
  obtain ⟨P1, hP1⟩ : ∃ P, P = dbP x.2.1 y.2.1 := ⟨_, rfl⟩
  obtain ⟨P2, hP2⟩ : ∃ P, P = dbP x.2.2 y.2.2 := ⟨_, rfl⟩
  have HR : Aside0 (R = if Z = 0 then (if P1 = 0 then P2 else P1) else Z) := ⟨by rw [hR, hZ, hP1, hP2]; rfl⟩
  obtain ⟨W0, hW0⟩ : ∃ W0, w.alloc (.cells #[.pointer (some ⟨o, 0, none⟩), .string (By.ofL x.2.1), .string (By.ofL x.2.2)] 50) = W0 := ⟨_, rfl⟩
  obtain ⟨WA, hWA⟩ : ∃ WA, W0.alloc (.cells #[.pointer (some ⟨o', 0, none⟩), .string (By.ofL y.2.1), .string (By.ofL y.2.2)] 50) = WA := ⟨_, rfl⟩
  have hB0 : Below w.heap.size w W0 := by rw [← hW0]; exact (Below.refl _ _).alloc (Nat.le_refl _) _
  have hz0 : W0.heap.size = w.heap.size + 1 := by rw [← hW0]; simp
  have hB1 : Below W0.heap.size W0 WA := by rw [← hWA]; exact (Below.refl _ _).alloc (Nat.le_refl _) _
  have hBA : Below w.heap.size w WA := hB0.trans (hB1.mono (by omega))
  have g2 : WA.heap[W0.heap.size]? = some (.cells #[.pointer (some ⟨o', 0, none⟩), .string (By.ofL y.2.1), .string (By.ofL y.2.2)] 50 (0, 0)) := by rw [← hWA]; exact blk_new W0 _
  have hD : DvB w.heap.size W0.heap.size o o' (By.ofL x.2.1) (By.ofL x.2.2) (By.ofL y.2.1) (By.ofL y.2.2) WA := ⟨blk_keep' hB1 (by rw [← hW0]; exact blk_new w _), g2⟩
  have HC0 : Aside0 (∀ W, Below WA.heap.size WA W → Calls Tryd.prog 59 #[.pointer (some ⟨o, 0, none⟩), .pointer (some ⟨o', 0, none⟩)] W fun e w' => e = .returned (.int .i64 Z) ∧ Below WA.heap.size WA w') := ⟨fun W hB => by
    have hBw := hBA.trans (hB.mono hBA.size)
    refine (big_Cmp _ _ _ _ W (Big.At.below hz hBw) (Big.At.below hz' hBw)).mono ?_
    rintro e w' ⟨rfl, n, rfl⟩
    exact ⟨by rw [hZ], pw_below_drewN hB n⟩⟩
  have HC1 : Aside0 (∀ W, Below WA.heap.size WA W → Calls Tryd.prog 47 #[.string (By.ofL x.2.1), .string (By.ofL y.2.1)] W fun e w' => e = .returned (.tuple #[.int .i64 P1, .nilIface]) ∧ Below WA.heap.size WA w') := ⟨fun W hB => by
    refine (db_cmp _ _ W hx.1 hy.1 (Gw.GW.below hG (hBA.trans (hB.mono hBA.size)))).mono ?_
    rintro e w' ⟨rfl, h⟩
    exact ⟨by rw [hP1], hB.trans (h.mono hB.size)⟩⟩
  have HC2 : Aside0 (∀ W, Below WA.heap.size WA W → Calls Tryd.prog 47 #[.string (By.ofL x.2.2), .string (By.ofL y.2.2)] W fun e w' => e = .returned (.tuple #[.int .i64 P2, .nilIface]) ∧ Below WA.heap.size WA w') := ⟨fun W hB => by
    refine (db_cmp _ _ W hx.2 hy.2 (Gw.GW.below hG (hBA.trans (hB.mono hBA.size)))).mono ?_
    rintro e w' ⟨rfl, h⟩
    exact ⟨by rw [hP2], hB.trans (h.mono hB.size)⟩⟩
  have HD := Aside0.mk hD
  have HB : Aside0 (∀ W, Below WA.heap.size WA W → Below w.heap.size w W) := ⟨fun W h => hBA.trans (h.mono hBA.size)⟩
  rw [← hR]
  generalize By.ofL x.2.1 = a at *
  generalize By.ofL x.2.2 = b at *
  generalize By.ofL y.2.1 = a' at *
  generalize By.ofL y.2.2 = b' at *
  obtain ⟨k0, _, _, k1, _, _⟩ := hD.cells
  have hu := Tryd.underlying50
  clear hR hZ hP1 hP2 hB0 hz0 hB1 hBA g2 hD hx hy hz hz' hG
  rcases Decidable.em (Z = 0) with hz | hz
  · have e1 : (Z == 0) = true := beq_iff_eq.2 hz
    have e2 : (Z != 0) = false := by rw [hz]; rfl
    rcases Decidable.em (P1 = 0) with hp | hp
    · have e3 : (P1 == 0) = true := beq_iff_eq.2 hp
      have e4 : (P1 != 0) = false := by rw [hp]; rfl
      rcases Decidable.em (P2 = 0) with hq | hq
      · have e5 : (P2 == 0) = true := beq_iff_eq.2 hq
        have e6 : (P2 != 0) = false := by rw [hq]; rfl
        have HV : Aside0 (R = 0) := ⟨by rw [HR.out, if_pos hz, if_pos hp, hq]⟩
        clear hz hp hq HR
        go_enter Tryd.func46, Tryd.ntmps46
        go_wp2_with (go_at_call 59; (with_reducible refine (HC0.out _ ?hb0).mono ?_))
        case hb0 => first | exact Below.refl _ _ | exact pw_below_drewN (Below.refl _ _) _
        rintro e W1 ⟨rfl, hb⟩
        have HB1 := Aside0.mk hb
        have hD := DvB.below HD.out hb
        clear hb k0 k1
        obtain ⟨_, k2, _, _, k3, _⟩ := hD.cells
        clear hD
        go_wp2_with (go_at_call 47; (with_reducible refine (HC1.out _ ?hb1).mono ?_))
        case hb1 => first | exact HB1.out | exact pw_below_drewN HB1.out _
        rintro e W2 ⟨rfl, hb⟩
        have HB2 := Aside0.mk hb
        have hD := DvB.below HD.out hb
        clear hb k2 k3
        obtain ⟨_, _, k4, _, _, k5⟩ := hD.cells
        clear hD
        go_wp2_with (go_at_call 47; (with_reducible refine (HC2.out _ ?hb2).mono ?_))
        case hb2 => first | exact HB2.out | exact pw_below_drewN HB2.out _
        rintro e W3 ⟨rfl, hb⟩
        have HB3 := Aside0.mk hb
        clear hb k4 k5
        go_wp2
        go_ret2
        exact ⟨by first | (rw [HV.out]; done) | (rw [HV.out]; rfl), HB.out _ HB3.out⟩
      · have e5 : (P2 == 0) = false := beq_eq_false_iff_ne.2 hq
        have e6 : (P2 != 0) = true := bne_iff_ne.2 hq
        have HV : Aside0 (R = P2) := ⟨by rw [HR.out, if_pos hz, if_pos hp]⟩
        clear hz hp hq HR
        go_enter Tryd.func46, Tryd.ntmps46
        go_wp2_with (go_at_call 59; (with_reducible refine (HC0.out _ ?hb0).mono ?_))
        case hb0 => first | exact Below.refl _ _ | exact pw_below_drewN (Below.refl _ _) _
        rintro e W1 ⟨rfl, hb⟩
        have HB1 := Aside0.mk hb
        have hD := DvB.below HD.out hb
        clear hb k0 k1
        obtain ⟨_, k2, _, _, k3, _⟩ := hD.cells
        clear hD
        go_wp2_with (go_at_call 47; (with_reducible refine (HC1.out _ ?hb1).mono ?_))
        case hb1 => first | exact HB1.out | exact pw_below_drewN HB1.out _
        rintro e W2 ⟨rfl, hb⟩
        have HB2 := Aside0.mk hb
        have hD := DvB.below HD.out hb
        clear hb k2 k3
        obtain ⟨_, _, k4, _, _, k5⟩ := hD.cells
        clear hD
        go_wp2_with (go_at_call 47; (with_reducible refine (HC2.out _ ?hb2).mono ?_))
        case hb2 => first | exact HB2.out | exact pw_below_drewN HB2.out _
        rintro e W3 ⟨rfl, hb⟩
        have HB3 := Aside0.mk hb
        clear hb k4 k5
        go_wp2
        go_ret2
        exact ⟨by first | (rw [HV.out]; done) | (rw [HV.out]; rfl), HB.out _ HB3.out⟩
    · have e3 : (P1 == 0) = false := beq_eq_false_iff_ne.2 hp
      have e4 : (P1 != 0) = true := bne_iff_ne.2 hp
      have HV : Aside0 (R = P1) := ⟨by rw [HR.out, if_pos hz, if_neg hp]⟩
      clear hz hp HR
      go_enter Tryd.func46, Tryd.ntmps46
      go_wp2_with (go_at_call 59; (with_reducible refine (HC0.out _ ?hb0).mono ?_))
      case hb0 => first | exact Below.refl _ _ | exact pw_below_drewN (Below.refl _ _) _
      rintro e W1 ⟨rfl, hb⟩
      have HB1 := Aside0.mk hb
      have hD := DvB.below HD.out hb
      clear hb k0 k1
      obtain ⟨_, k2, _, _, k3, _⟩ := hD.cells
      clear hD
      go_wp2_with (go_at_call 47; (with_reducible refine (HC1.out _ ?hb1).mono ?_))
      case hb1 => first | exact HB1.out | exact pw_below_drewN HB1.out _
      rintro e W2 ⟨rfl, hb⟩
      have HB2 := Aside0.mk hb
      have hD := DvB.below HD.out hb
      clear hb k2 k3
      clear hD
      go_wp2
      go_ret2
      exact ⟨by first | (rw [HV.out]; done) | (rw [HV.out]; rfl), HB.out _ HB2.out⟩
  · have e1 : (Z == 0) = false := beq_eq_false_iff_ne.2 hz
    have e2 : (Z != 0) = true := bne_iff_ne.2 hz
    have HV : Aside0 (R = Z) := ⟨by rw [HR.out, if_neg hz]⟩
    clear hz HR
    go_enter Tryd.func46, Tryd.ntmps46
    go_wp2_with (go_at_call 59; (with_reducible refine (HC0.out _ ?hb0).mono ?_))
    case hb0 => first | exact Below.refl _ _ | exact pw_below_drewN (Below.refl _ _) _
    rintro e W1 ⟨rfl, hb⟩
    have HB1 := Aside0.mk hb
    have hD := DvB.below HD.out hb
    clear hb k0 k1
    clear hD
    go_wp2
    go_ret2
    exact ⟨by first | (rw [HV.out]; done) | (rw [HV.out]; rfl), HB.out _ HB1.out⟩
set_option maxRecDepth 100000 in
set_option maxHeartbeats 8000000 in
theorem db_Compare (x y : DbV) (o o' : Nat) (w : World) (hx : Asc x.2.1 ∧ Asc x.2.2) (hy : Asc y.2.1 ∧ Asc y.2.2) (hz : Big.At w x.1 (.pointer (some ⟨o, 0, none⟩))) (hz' : Big.At w y.1 (.pointer (some ⟨o', 0, none⟩))) (hG : GW w) :
    Calls Tryd.prog 30 #[.agg #[.pointer (some ⟨o, 0, none⟩), .string (By.ofL x.2.1), .string (By.ofL x.2.2)], .iface 50 (.agg #[.pointer (some ⟨o', 0, none⟩), .string (By.ofL y.2.1), .string (By.ofL y.2.2)])] w fun e w' => e = .returned (.tuple #[.int .i64 (dvC x y), .nilIface]) ∧ Below w.heap.size w w' := by
  have hu := Tryd.underlying50
  have HF : Aside0 (∀ W, Below w.heap.size w W → Calls Tryd.prog 46 #[.agg #[.pointer (some ⟨o, 0, none⟩), .string (By.ofL x.2.1), .string (By.ofL x.2.2)], .agg #[.pointer (some ⟨o', 0, none⟩), .string (By.ofL y.2.1), .string (By.ofL y.2.2)]] W fun e w' => e = .returned (.tuple #[.int .i64 (dvC x y), .nilIface]) ∧ Below W.heap.size W w') := ⟨fun W h => db_compare x y o o' W hx hy (Big.At.below hz h) (Big.At.below hz' h) (Gw.GW.below hG h)⟩
  generalize dvC x y = R at *
  clear hz hz' hx hy hG
  generalize By.ofL x.2.1 = a at *
  generalize By.ofL x.2.2 = b at *
  generalize By.ofL y.2.1 = a' at *
  generalize By.ofL y.2.2 = b' at *
  have hta : ∀ W : World, (Instr.typeAssert (.iface 50 (.agg #[.pointer (some ⟨o', 0, none⟩), .string a', .string b'])) 74 50 true).run Tryd.prog W = .ok (.tuple #[.agg #[.pointer (some ⟨o', 0, none⟩), .string a', .string b'], .bool true]) W := fun W => by kernel_rfl
  go_enter Tryd.func30, Tryd.ntmps30
  go_wp2_with (go_at_call 46; refine (HF.out _ ?hbel).mono ?_)
  case hbel => exact ((Below.refl _ _).alloc (Nat.le_refl _) _).alloc (by simp) _
  rintro e W1 ⟨rfl, hb⟩
  have HB : Aside0 (Below w.heap.size w W1) := ⟨by
    refine Below.trans ?_ (hb.mono ?_)
    · exact ((Below.refl _ _).alloc (Nat.le_refl _) _).alloc (by simp) _
    · simp; omega⟩
  clear hb
  go_wp2
  go_ret2
  exact ⟨rfl, HB.out⟩
def impl_DebianCompare.f (a0 a1 : ByteArray) : Option (Int × Bool) := if (a0.size ≤ 100000 ∧ ascB a0 = true) ∧ a1.size ≤ 100000 ∧ ascB a1 = true then some (match dbp (By.bl a0), dbp (By.bl a1) with
  | some x, some y => (dvC x y, true)
  | _, _ => (0, false)) else none
def impl_DebianCompareText.f (a0 a1 : ByteArray) : Option (Int × Bool) := impl_DebianCompare.f a0 a1
attribute [local go_sem] Ss.EV
set_option maxRecDepth 100000 in
set_option maxHeartbeats 8000000 in
theorem impl_DebianCompare.calls (a0 a1 : ByteArray) (r1 : Int) (r2 : Bool) (w : World) (hG : GW w) (h : impl_DebianCompare.f a0 a1 = some (r1, r2)) :
    Calls Tryd.prog 14 #[.string a0, .string a1] w fun e w' => e = .returned (.tuple #[.int .i64 r1, .bool r2]) ∧ Below w.heap.size w w' := by
  skip
  unfold impl_DebianCompare.f at h
  split at h
  · rename_i hf
    have ha0 : Asc (By.bl a0) := ⟨by rw [By.bl_length]; exact hf.1.1, ascB_all hf.1.2⟩
    have ha1 : Asc (By.bl a1) := ⟨by rw [By.bl_length]; exact hf.2.1, ascB_all hf.2.2⟩
    have hp0 := db_parse (By.bl a0) w ha0 hG
    rw [By.ofL_bl] at hp0
    have HP := Aside0.mk hp0
    have HA0 := Aside0.mk ha0
    have HA1 := Aside0.mk ha1
    have HG := Aside0.mk hG
    have HH := Aside0.mk h
    have hu := Tryd.underlying50
    clear h hf hG hp0 ha0 ha1
    go_enter Tryd.func14, Tryd.ntmps14
    go_wp2_with (go_at_call 29; (with_reducible refine (HP.out).mono ?_))
    rintro e W1 ⟨hb1, h1⟩
    have HB1 := Aside0.mk hb1
    clear HP hb1
    rcases h1 with ⟨hn, ae, rfl⟩ | ⟨z, u, v, o, hx, rfl, hat⟩
    · have HV : Aside0 (r1 = 0 ∧ r2 = false) := ⟨by
        have h := HH.out
        rw [hn] at h
        simp only [Option.some.injEq, Prod.mk.injEq] at h
        exact ⟨h.1.symm, h.2.symm⟩⟩
      have HBE : Aside0 (Below w.heap.size w (W1.alloc (.cells #[.pointer none, .string ⟨#[]⟩, .string ⟨#[]⟩] 50))) := ⟨HB1.out.alloc HB1.out.size _⟩
      clear hn HH
      go_wp2
      go_ret2
      exact ⟨by rw [HV.out.1, HV.out.2]; rfl, HBE.out⟩
    · have HUV := Aside0.mk (dbp_asc HA0.out hx)
      obtain ⟨a, haa⟩ : ∃ s, s = By.ofL u := ⟨_, rfl⟩
      obtain ⟨b, hbb⟩ : ∃ s, s = By.ofL v := ⟨_, rfl⟩
      have HAB : Aside0 (a = By.ofL u ∧ b = By.ofL v) := ⟨haa, hbb⟩
      rw [← haa, ← hbb]
      obtain ⟨W2, hW2⟩ : ∃ W2, W1.alloc (.cells #[.pointer (some ⟨o, 0, none⟩), .string a, .string b] 50) = W2 := ⟨_, rfl⟩
      have hB2 : Below W1.heap.size W1 W2 := by rw [← hW2]; exact (Below.refl _ _).alloc (Nat.le_refl _) _
      have hblk : W2.heap[W1.heap.size]? = some (.cells #[.pointer (some ⟨o, 0, none⟩), .string a, .string b] 50 (0, 0)) := by rw [← hW2]; exact blk_new W1 _
      have HBLK := Aside0.mk hblk
      have HB2 : Aside0 (Below w.heap.size w W2) := ⟨HB1.out.trans (hB2.mono HB1.out.size)⟩
      have HX : Aside0 (dbp (By.bl a0) = some (z, u, v) ∧ Big.At W2 z (.pointer (some ⟨o, 0, none⟩))) := ⟨hx, Big.At.below hat hB2⟩
      have k0 : W2.cell? ⟨W1.heap.size, 0, none⟩ = some (.pointer (some ⟨o, 0, none⟩)) := (blk_cell hblk 0).trans rfl
      have k1 : W2.cell? ⟨W1.heap.size, 1, none⟩ = some (.string a) := (blk_cell hblk 1).trans rfl
      have k2 : W2.cell? ⟨W1.heap.size, 2, none⟩ = some (.string b) := (blk_cell hblk 2).trans rfl
      clear hx hat hB2 haa hbb hblk
      have hQ0 := db_parse (By.bl a1) W2 HA1.out (Gw.GW.below HG.out HB2.out)
      rw [By.ofL_bl] at hQ0
      have hQ := Aside0.mk hQ0
      clear hQ0
      go_wp2_with (go_at_call 29; (with_reducible refine (hQ.out).mono ?_))
      rintro e W3 ⟨hb3, h3⟩
      have HB3 : Aside0 (Below w.heap.size w W3) := ⟨HB2.out.trans (hb3.mono HB2.out.size)⟩
      have HB3' := Aside0.mk hb3
      clear hQ hb3 k0 k1 k2
      rcases h3 with ⟨hn, ae, rfl⟩ | ⟨z', u', v', o', hy, rfl, hat⟩
      · have HV : Aside0 (r1 = 0 ∧ r2 = false) := ⟨by
          have h := HH.out
          rw [hn, HX.out.1] at h
          simp only [Option.some.injEq, Prod.mk.injEq] at h
          exact ⟨h.1.symm, h.2.symm⟩⟩
        have HBE : Aside0 (Below w.heap.size w (W3.alloc (.cells #[.pointer none, .string ⟨#[]⟩, .string ⟨#[]⟩] 50))) := ⟨HB3.out.alloc HB3.out.size _⟩
        clear hn HH
        go_wp2
        go_ret2
        exact ⟨by rw [HV.out.1, HV.out.2]; rfl, HBE.out⟩
      · have HV : Aside0 (r1 = dvC (z, u, v) (z', u', v') ∧ r2 = true) := ⟨by
          have h := HH.out
          rw [hy, HX.out.1] at h
          simp only [Option.some.injEq, Prod.mk.injEq] at h
          exact ⟨h.1.symm, h.2.symm⟩⟩
        have HUV' := Aside0.mk (dbp_asc HA1.out hy)
        obtain ⟨a', haa⟩ : ∃ s, s = By.ofL u' := ⟨_, rfl⟩
        obtain ⟨b', hbb⟩ : ∃ s, s = By.ofL v' := ⟨_, rfl⟩
        have HAB' : Aside0 (a' = By.ofL u' ∧ b' = By.ofL v') := ⟨haa, hbb⟩
        rw [← haa, ← hbb]
        obtain ⟨W4, hW4⟩ : ∃ W4, W3.alloc (.cells #[.pointer (some ⟨o', 0, none⟩), .string a', .string b'] 50) = W4 := ⟨_, rfl⟩
        have hB4 : Below W3.heap.size W3 W4 := by rw [← hW4]; exact (Below.refl _ _).alloc (Nat.le_refl _) _
        have hblk' : W4.heap[W3.heap.size]? = some (.cells #[.pointer (some ⟨o', 0, none⟩), .string a', .string b'] 50 (0, 0)) := by rw [← hW4]; exact blk_new W3 _
        have hblk := blk_keep' hB4 (blk_keep' HB3'.out HBLK.out)
        have HB4 : Aside0 (Below w.heap.size w W4) := ⟨HB3.out.trans (hB4.mono HB3.out.size)⟩
        have k0 : W4.cell? ⟨W1.heap.size, 0, none⟩ = some (.pointer (some ⟨o, 0, none⟩)) := (blk_cell hblk 0).trans rfl
        have k1 : W4.cell? ⟨W1.heap.size, 1, none⟩ = some (.string a) := (blk_cell hblk 1).trans rfl
        have k2 : W4.cell? ⟨W1.heap.size, 2, none⟩ = some (.string b) := (blk_cell hblk 2).trans rfl
        have k3 : W4.cell? ⟨W3.heap.size, 0, none⟩ = some (.pointer (some ⟨o', 0, none⟩)) := (blk_cell hblk' 0).trans rfl
        have k4 : W4.cell? ⟨W3.heap.size, 1, none⟩ = some (.string a') := (blk_cell hblk' 1).trans rfl
        have k5 : W4.cell? ⟨W3.heap.size, 2, none⟩ = some (.string b') := (blk_cell hblk' 2).trans rfl
        have HCm : Aside0 (∀ W, Below W4.heap.size W4 W → Calls Tryd.prog 30 #[.agg #[.pointer (some ⟨o, 0, none⟩), .string a, .string b], .iface 50 (.agg #[.pointer (some ⟨o', 0, none⟩), .string a', .string b'])] W fun e w' => e = .returned (.tuple #[.int .i64 (dvC (z, u, v) (z', u', v')), .nilIface]) ∧ Below w.heap.size w w') := ⟨fun W hB => by
          have hBw := HB4.out.trans (hB.mono HB4.out.size)
          rw [HAB.out.1, HAB.out.2, HAB'.out.1, HAB'.out.2]
          refine (db_Compare (z, u, v) (z', u', v') o o' W HUV.out HUV'.out (Big.At.below (Big.At.below (Big.At.below HX.out.2 HB3'.out) hB4) hB) (Big.At.below (Big.At.below hat hB4) hB) (Gw.GW.below HG.out hBw)).mono ?_
          rintro e w' ⟨rfl, h⟩
          exact ⟨rfl, hBw.trans (h.mono hBw.size)⟩⟩
        generalize dvC (z, u, v) (z', u', v') = R at HV HCm
        clear hy hat hB4 HH hblk hblk' haa hbb
        go_wp2_with (go_at_call 30; (with_reducible refine (HCm.out _ ?hbq).mono ?_))
        case hbq => first | exact Below.refl _ _ | exact pw_below_drewN (Below.refl _ _) _
        rintro e W5 ⟨rfl, hb5⟩
        have HB5 := Aside0.mk hb5
        clear hb5
        go_wp2
        go_quiet (fail)
        go_wp2
        go_ret2
        exact ⟨by rw [HV.out.1, HV.out.2]; rfl, by first | exact HB5.out | exact pw_below_drewN HB5.out _⟩
  · cases h

end Go.Proofs.YtkcciinapkeaiaaDoor.Z
