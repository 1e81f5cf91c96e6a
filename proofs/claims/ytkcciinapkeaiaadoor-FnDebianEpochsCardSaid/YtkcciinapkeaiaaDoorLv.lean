/- What a row's list of package-level variables says of each listed one. -/
import Derived.Test.YtkcciinapkeaiaaDoorWW
import Derived.LaidLaws
import Derived.ChangeArms
import Derived.SliceStrings
import Derived.FnData
import Derived.Stop.LaidErr
namespace Go.Proofs.YtkcciinapkeaiaaDoor.Lv
open Go Go.RowKit Go.ChangeShapes
/-- One listed variable's reading. -/
def VarR (P : Program) (w : World) (n : String) (d : DataW Unit) : Prop :=
  ∃ g t cs fuel p, P.globalNamed n = some g ∧ (P.globals[g]?).map (·.type) = some t ∧ w.var? P n = some cs ∧ DataW.trod (fun _ => ()) P w 0 (fun _ => true) false fuel t cs.toList = some (d, p)
theorem vars_read {P : Program} {w : World} : ∀ {l : List (String × DataW Unit)} {ps : List MemPlace}, DataW.LaidVars P w l ps → ∀ n d, (n, d) ∈ l → VarR P w n d
  | [], _, _, _, _, hm => by cases hm
  | (n', d') :: r, ps, h, n, d, hm => by
    obtain ⟨g, t, cs, fuel, p, q, h1, h2, h3, h4, h5, _⟩ := h
    rcases List.mem_cons.1 hm with e | e
    · cases e
      exact ⟨g, t, cs, fuel, p, h1, h2, h3, h4⟩
    · exact vars_read h5 n d e
theorem of_laid {P : Program} {w : World} {l : List (String × DataW Unit)} (h : laidMet P l w) {n : String} {d : DataW Unit} (hm : (n, d) ∈ l) : VarR P w n d :=
  let ⟨_, hv, _⟩ := h
  vars_read hv n d hm
/-- A listed error of errors.New. -/
theorem err_of {P : Program} {n nm : String} {text : List UInt8} {W : World} {g : Nat} {ti tp te ts : TypeId} {ms : Array (String × TypeId)} {f : Field}
    (hg : P.globalNamed n = some g) (ht : (P.globals[g]?).map (·.type) = some ti) (hi : P.underlying ti = some (.interface ms)) (hrow : ∀ u, P.typeName? 3 u = some nm → u = tp)
    (hp : P.underlying tp = some (.pointer te)) (he : P.underlying te = some (.struct #[f])) (hft : f.type = ts) (hfo : f.offset = 0) (hs : P.underlying ts = some .string) (hc : P.cellsOf te = 1) (hcs : P.cellsOf ts = 1) :
    ∀ (l : List (String × DataW Unit)), laidMet P l W → (n, DataW.iface nm (.ptr (.agg [.lit (.string text)]))) ∈ l → ∃ a, W.cell? ⟨g, 0, none⟩ = some (.iface tp (.pointer (some a)))
  | [], _, hm => by cases hm
  | x :: r, h, hm => by
    rcases List.mem_cons.1 hm with e | e
    · subst e
      obtain ⟨a, s, h1, _⟩ := laid_sentinel h hg ht hi hrow hp he hft hfo hs hc hcs
      exact ⟨a, by rw [World.var?_cell hg h1 0]; rfl⟩
    · exact err_of hg ht hi hrow hp he hft hfo hs hc hcs r (laidMet.tail h) e
end Go.Proofs.YtkcciinapkeaiaaDoor.Lv
