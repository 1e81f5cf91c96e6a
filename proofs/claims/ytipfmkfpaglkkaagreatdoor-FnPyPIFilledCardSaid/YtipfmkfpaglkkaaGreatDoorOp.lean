/- Arguments laid open: what a reading of an argument (a text, a number, a slice, a struct) says in the print's words 'Kd.K'. No condition on the program beyond the types' own facts. -/
import Derived.Test.YtipfmkfpaglkkaaGreatDoorWW
import Derived.SizedLaws
import Derived.ChangeSlices
import Derived.ChangeArms
import Derived.ChangeSame
import Derived.ChangeMaps5
import Derived.WideShapes
import Derived.Carry
namespace Go.Proofs.YtipfmkfpaglkkaaGreatDoor.Op
open Go Go.RowKit Go.Proofs.YtipfmkfpaglkkaaGreatDoorW.PrintWords
set_option linter.unusedVariables false
set_option linter.unusedSimpArgs false

/-- Whatever is read at type t is an element of this kind. -/
def Opens {α : Type} (P : Program) (t : TypeId) (d : Kd α) : Prop :=
  ∀ {H : Type} (enc : TypeId × Value → H) (w : World) (base : Nat) (spare : Nat → Bool) (held : Bool) (fuel : Nat) (cs : List Value) (x : DataW H × List MemPlace),
    DataW.trod enc P w base spare held fuel t cs = some x → ∃ a, d.K w a cs

theorem Opens.string {P : Program} {t : TypeId} (ht : P.underlying t = some .string) : Opens P t Kd.string := by
  intro H enc w base spare held fuel cs x h
  obtain ⟨s, hs, _⟩ := DataW.trod_string ht h
  exact ⟨s, hs⟩
theorem Opens.int {P : Program} {t : TypeId} {k : IntKind} (ht : P.underlying t = some (.int k)) : Opens P t (Kd.int k) := by
  intro H enc w base spare held fuel cs x h
  cases fuel with
  | zero => simp [DataW.trod] at h
  | succ n =>
    unfold DataW.trod at h
    rw [ht] at h
    split at h <;> simp_all
    all_goals first | exact ⟨_, rfl⟩ | skip
theorem Opens.bool {P : Program} {t : TypeId} (ht : P.underlying t = some .bool) : Opens P t Kd.bool := by
  intro H enc w base spare held fuel cs x h
  cases fuel with
  | zero => simp [DataW.trod] at h
  | succ n =>
    unfold DataW.trod at h
    rw [ht] at h
    split at h
    all_goals first | exact ⟨_, rfl⟩ | (exfalso; simp_all; done)

theorem choose_list {α : Type} {R : Nat → α → Prop} : ∀ (n : Nat), (∀ i, i < n → ∃ a, R i a) → ∃ l : List α, l.length = n ∧ ∀ i a, l[i]? = some a → R i a
  | 0, _ => ⟨[], rfl, fun i a h => by simp at h⟩
  | n + 1, h => by
    obtain ⟨l, hl, hr⟩ := choose_list n (fun i hi => h i (by omega))
    obtain ⟨a, ha⟩ := h n (by omega)
    refine ⟨l ++ [a], by simp [hl], fun i b hb => ?_⟩
    by_cases hi : i < n
    · rw [List.getElem?_append_left (by omega)] at hb
      exact hr i b hb
    · have : i = n := by
        have := (List.getElem?_eq_some_iff.1 hb).1
        simp at this
        omega
      subst this
      rw [List.getElem?_append_right (by omega)] at hb
      simp [hl] at hb
      exact hb ▸ ha

theorem cells_get {w : World} {base : Nat} {a : Addr} {n : Nat} {cs : List Value} (h : w.cells? base a n = some cs) (i : Nat) (u : Value) (hi : cs[i]? = some u) : w.cell? (a.add i) = some u := by
  unfold World.cells? at h
  split at h
  · have key : ∀ (l : List Nat) (ys : List Value), l.mapM (fun i => w.cell? (a.add i)) = some ys → ∀ (i : Nat) (u : Value), ys[i]? = some u → ∃ j, l[i]? = some j ∧ w.cell? (a.add j) = some u := by
      intro l
      induction l with
      | nil => intro ys hy i u hi; simp at hy; subst hy; simp at hi
      | cons b l ih =>
        intro ys hy i u hi
        simp only [List.mapM_cons, Option.bind_eq_bind, Option.bind_eq_some_iff] at hy
        obtain ⟨y, h1, zs, h2, h3⟩ := hy
        simp at h3
        subst h3
        cases i with
        | zero => simp at hi; exact ⟨b, rfl, hi ▸ h1⟩
        | succ i => simp at hi; simpa using ih zs h2 i u hi
    obtain ⟨j, h1, h2⟩ := key _ _ h i u hi
    obtain ⟨h3, h4⟩ := List.getElem?_eq_some_iff.1 h1
    simp at h4
    exact h4 ▸ h2
  · simp at h

theorem Opens.slice {α : Type} {P : Program} {t e : TypeId} {d : Kd α} (ht : P.underlying t = some (.slice e)) (hc : P.cellsOf e = d.sz) (hd : Opens P e d) : Opens P t (Kd.slice e d) := by
  intro H enc w base spare held fuel cs x h
  rcases DataW.trod_slice ht h with ⟨rfl, _⟩ | ⟨a, len, cap, elems, rest, n, rfl, rfl, _, hb, hl, hm, hlen, hel, _⟩
  · exact ⟨[], none, 0, rfl, Nat.le_refl _, rfl, by simp, fun h => absurd h (by simp)⟩
  · have each : ∀ i, i < len → ∃ y, ∃ c, w.cells? base (a.add (i * P.cellsOf e)) (P.cellsOf e) = some c ∧ d.K w y c := by
      intro i hi
      have h1 := hel i hi
      rw [List.getElem?_eq_getElem (by omega), Option.bind_eq_some_iff] at h1
      obtain ⟨c, h2, h3⟩ := h1
      obtain ⟨y, hy⟩ := hd enc w base spare held n c _ h3
      exact ⟨y, c, h2, hy⟩
    obtain ⟨l, hl2, hr⟩ := choose_list len each
    refine ⟨l, some a, cap, by rw [hl2], by omega, rfl, by unfold maxLen at hm; omega, fun _ => ⟨a, rfl, fun j p hj => ?_⟩⟩
    obtain ⟨c, h1, h2⟩ := hr j p hj
    refine ⟨c, d.K_len h2, h2, fun i u hu => ?_⟩
    have h3 := cells_get h1 i u hu
    rw [← hc]
    have : (a.add (j * P.cellsOf e)).add i = a.add (j * P.cellsOf e + i) := add_add _ _ _
    rw [← this]
    exact h3

theorem mapM_get {α β : Type} {f : α → Option β} : ∀ {l : List α} {ys : List β}, l.mapM f = some ys → ∀ (i : Nat) (a : α), l[i]? = some a → ∃ y, f a = some y
  | [], _, _, i, a, h => by simp at h
  | b :: l, ys, h, i, a, hi => by
    simp only [List.mapM_cons, Option.bind_eq_bind, Option.bind_eq_some_iff] at h
    obtain ⟨y, hy, zs, hz, _⟩ := h
    cases i with
    | zero => simp at hi; exact ⟨y, hi ▸ hy⟩
    | succ i => simp at hi; exact mapM_get hz i a hi
theorem trod_fields {H : Type} {enc : TypeId × Value → H} {P : Program} {w : World} {base : Nat} {spare : Nat → Bool} {held : Bool} {fuel : Nat} {t : TypeId} {cs : List Value} {x : DataW H × List MemPlace} {fs : Array Field}
    (ht : P.underlying t = some (.struct fs)) (h : DataW.trod enc P w base spare held fuel t cs = some x) :
    cs.length = P.cellsOf t ∧ ∃ n, ∀ (i : Nat) (f : Field), fs.toList[i]? = some f → ∃ y, DataW.trod enc P w base spare held n f.type ((cs.drop f.offset).take (P.cellsOf f.type)) = some y := by
  cases fuel with
  | zero => simp [DataW.trod] at h
  | succ n =>
    unfold DataW.trod at h
    rw [ht] at h
    simp only at h
    split at h
    · rename_i hl
      simp only [Option.map_eq_some_iff] at h
      obtain ⟨ys, hy, _⟩ := h
      exact ⟨hl, n, fun i f hf => mapM_get hy i f hf⟩
    · simp at h
/-- A struct's field. -/
theorem open_field {α : Type} {H : Type} {enc : TypeId × Value → H} {P : Program} {w : World} {base : Nat} {spare : Nat → Bool} {held : Bool} {n : Nat} {cs : List Value} {fs : Array Field} {d : Kd α}
    (hf : ∀ (i : Nat) (f : Field), fs.toList[i]? = some f → ∃ y, DataW.trod enc P w base spare held n f.type ((cs.drop f.offset).take (P.cellsOf f.type)) = some y) (i : Nat) (t off sz : Nat)
    (hi : (fs.toList[i]?).map (fun f => (f.type, f.offset)) = some (t, off)) (hs : P.cellsOf t = sz) (hd : Opens P t d) : ∃ a, d.K w a ((cs.drop off).take sz) := by
  obtain ⟨f, h1, h2⟩ := Option.map_eq_some_iff.1 hi
  simp only [Prod.mk.injEq] at h2
  obtain ⟨rfl, rfl⟩ := h2
  obtain ⟨y, hy⟩ := hf i f h1
  rw [hs] at hy
  exact hd enc w base spare held n _ _ hy
theorem split_at (cs : List Value) (off sz : Nat) : cs.drop off = (cs.drop off).take sz ++ cs.drop (off + sz) := by
  rw [← List.drop_drop, List.take_append_drop]
theorem last_at (cs : List Value) (off sz : Nat) (h : cs.length = off + sz) : cs.drop off = (cs.drop off).take sz := by
  rw [List.take_of_length_le (by simp; omega)]

/-- An argument, laid open. -/
theorem open_arg {α : Type} {H : Type} {enc : TypeId × Value → H} {P : Program} {W : World} {base : Nat} {spare : Nat → Bool} {held : Bool} {t : TypeId} {v : Value} {d : DataW H} {ps : List MemPlace} {k : Kd α}
    (hk : Opens P t k) (h : DataW.Trod enc P W base spare held t v d ps) : ∃ a, k.K W a v.cells.toList := by
  obtain ⟨fuel, hf⟩ := h
  exact hk enc W base spare held fuel _ _ hf
theorem open_agg {α : Type} {H : Type} {enc : TypeId × Value → H} {P : Program} {W : World} {r : Reach} {base b0 : Nat} {spare : Nat → Bool} {held : Bool} {t : TypeId} {fs : Array Field} {v : Value} {d : DataW H} {ps : List MemPlace} {k : Kd α}
    (ht : P.underlying t = some (.struct fs)) (hv : Value.okWide P W r b0 t v) (hk : Opens P t k) (h : DataW.Trod enc P W base spare held t v d ps) : ∃ a cs, v = .agg cs ∧ k.K W a cs.toList := by
  unfold Value.okWide at hv
  rw [ht] at hv
  obtain ⟨cs, rfl, _⟩ := hv
  obtain ⟨a, ha⟩ := open_arg hk h
  exact ⟨a, cs, rfl, ha⟩
end Go.Proofs.YtipfmkfpaglkkaaGreatDoor.Op
