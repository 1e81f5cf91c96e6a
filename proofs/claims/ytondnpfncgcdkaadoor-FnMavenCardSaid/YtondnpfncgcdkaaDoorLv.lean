/- What a row's list of package-level variables says of each listed one. -/
import Derived.Test.YtondnpfncgcdkaaDoorWW
import Derived.LaidLaws
import Derived.ChangeArms
import Derived.SliceStrings
import Derived.FnData
import Derived.Stop.LaidErr
namespace Go.Proofs.YtondnpfncgcdkaaDoor.Lv
open Go Go.RowKit Go.ChangeShapes
/-- One listed variable's reading. -/
def VarR (P : Program) (w : World) (n : String) (d : DataW Unit) : Prop :=
  ∃ g t cs fuel p, P.globalNamed n = some g ∧ (P.globals[g]?).map (·.type) = some t ∧ w.var? P n = some cs ∧ DataW.trod (fun _ => ()) P w 0 (fun _ => true) false fuel t cs.toList = some (d, p)
theorem vars_read {P : Program} {w : World} : ∀ {l : List (String × DataW Unit)} {ps : List MemPlace}, DataW.LaidVars P w l ps → ∀ n d, (n, d) ∈ l → VarR P w n d
  | [], _, _, _, _, hm => by cases hm
  | (n', d') :: r, ps, h, n, d, hm => by
    obtain ⟨g, t, cs, fuel, p, q, h1, h2, h3, h4, h5, _⟩ := h
    rcases List.mem_cons.1 hm with e | e
    · cases e
      exact ⟨g, t, cs, fuel, p, h1, h2, h3, h4⟩
    · exact vars_read h5 n d e
theorem of_laid {P : Program} {w : World} {l : List (String × DataW Unit)} (h : laidMet P l w) {n : String} {d : DataW Unit} (hm : (n, d) ∈ l) : VarR P w n d :=
  let ⟨_, hv, _⟩ := h
  vars_read hv n d hm
/-- A listed slice of texts. -/
theorem strings_of {P : Program} {w : World} {n : String} {ss : List ByteArray} {g : Nat} {t e : TypeId} (h : VarR P w n (.slice (strs ss) [])) (hg : P.globalNamed n = some g) (ht : (P.globals[g]?).map (·.type) = some t)
    (hu : P.underlying t = some (.slice e)) (he : P.underlying e = some .string) (hc : P.cellsOf e = 1) :
    ∃ a, w.cell? ⟨g, 0, none⟩ = some (.slice (some a) ss.length ss.length) ∧ ∀ i : Nat, i < ss.length → w.cell? (a.add i) = some (.string (ss.getD i ByteArray.empty)) := by
  obtain ⟨g', t', cs, fuel, p, h1, h2, h3, h4⟩ := h
  obtain rfl : g = g' := Option.some.inj (hg.symm.trans h1)
  obtain rfl : t = t' := Option.some.inj (ht.symm.trans h2)
  rcases open_strings hu he hc h4 with ⟨_, hx⟩ | ⟨a, len, cap, ss', hcs, _, hl, _, hlen, hx, hcell, _⟩
  · simp at hx
  · simp only [Prod.mk.injEq, DataW.slice.injEq] at hx
    obtain ⟨⟨hx1, hx2⟩, _⟩ := hx
    have inj : ∀ (a b : List ByteArray), strs (H := Unit) a = strs b → a = b := by
      intro a
      induction a with
      | nil => intro b hb; cases b with
        | nil => rfl
        | cons x b => simp [strs] at hb
      | cons x a ih => intro b hb; cases b with
        | nil => simp [strs] at hb
        | cons y b =>
          simp only [strs, List.map_cons, List.cons.injEq, DataW.lit.injEq, Lit.string.injEq] at hb
          rw [ih b hb.2]
          congr 1
          exact ByteArray.ext (Array.ext' hb.1)
    have e1 := inj _ _ hx1.symm
    have e2 : ss'.drop len = [] := inj _ [] hx2.symm
    simp only [if_true] at hlen
    have hlc : len = cap := by
      have := congrArg List.length e2
      simp at this
      omega
    have hss : ss' = ss := by rw [← e1, List.take_of_length_le (by omega)]
    subst hss
    obtain ⟨arr⟩ := cs
    simp only at hcs
    subst hcs
    refine ⟨a, ?_, hcell⟩
    rw [World.var?_cell hg h3 0]
    simp
    omega
/-- A listed error of errors.New. -/
theorem err_of {P : Program} {n nm : String} {text : List UInt8} {W : World} {g : Nat} {ti tp te ts : TypeId} {ms : Array (String × TypeId)} {f : Field}
    (hg : P.globalNamed n = some g) (ht : (P.globals[g]?).map (·.type) = some ti) (hi : P.underlying ti = some (.interface ms)) (hrow : ∀ u, P.typeName? 3 u = some nm → u = tp)
    (hp : P.underlying tp = some (.pointer te)) (he : P.underlying te = some (.struct #[f])) (hft : f.type = ts) (hfo : f.offset = 0) (hs : P.underlying ts = some .string) (hc : P.cellsOf te = 1) (hcs : P.cellsOf ts = 1) :
    ∀ (l : List (String × DataW Unit)), laidMet P l W → (n, DataW.iface nm (.ptr (.agg [.lit (.string text)]))) ∈ l → ∃ a, W.cell? ⟨g, 0, none⟩ = some (.iface tp (.pointer (some a)))
  | [], _, hm => by cases hm
  | x :: r, h, hm => by
    rcases List.mem_cons.1 hm with e | e
    · subst e
      obtain ⟨a, s, h1, _⟩ := laid_sentinel h hg ht hi hrow hp he hft hfo hs hc hcs
      exact ⟨a, by rw [World.var?_cell hg h1 0]; rfl⟩
    · exact err_of hg ht hi hrow hp he hft hfo hs hc hcs r (laidMet.tail h) e
end Go.Proofs.YtondnpfncgcdkaaDoor.Lv
