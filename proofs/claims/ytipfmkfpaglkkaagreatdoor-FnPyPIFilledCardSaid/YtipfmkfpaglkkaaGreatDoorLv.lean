/- What a row's list of package-level variables says of each listed one. -/
import Derived.Test.YtipfmkfpaglkkaaGreatDoorWW
import Derived.LaidLaws
import Derived.ChangeArms
import Derived.SliceStrings
import Derived.FnData
import Derived.Stop.LaidErr
namespace Go.Proofs.YtipfmkfpaglkkaaGreatDoor.Lv
open Go Go.RowKit Go.ChangeShapes
/-- A listed error of errors.New. -/
theorem err_of {P : Program} {n nm : String} {text : List UInt8} {W : World} {g : Nat} {ti tp te ts : TypeId} {ms : Array (String × TypeId)} {f : Field}
    (hg : P.globalNamed n = some g) (ht : (P.globals[g]?).map (·.type) = some ti) (hi : P.underlying ti = some (.interface ms)) (hrow : ∀ u, P.typeName? 3 u = some nm → u = tp)
    (hp : P.underlying tp = some (.pointer te)) (he : P.underlying te = some (.struct #[f])) (hft : f.type = ts) (hfo : f.offset = 0) (hs : P.underlying ts = some .string) (hc : P.cellsOf te = 1) (hcs : P.cellsOf ts = 1) :
    ∀ (l : List (String × DataW Unit)), laidMet P l W → (n, DataW.iface nm (.ptr (.agg [.lit (.string text)]))) ∈ l → ∃ a, W.cell? ⟨g, 0, none⟩ = some (.iface tp (.pointer (some a)))
  | [], _, hm => by cases hm
  | x :: r, h, hm => by
    rcases List.mem_cons.1 hm with e | e
    · subst e
      obtain ⟨a, s, h1, _⟩ := laid_sentinel h hg ht hi hrow hp he hft hfo hs hc hcs
      exact ⟨a, by rw [World.var?_cell hg h1 0]; rfl⟩
    · exact err_of hg ht hi hrow hp he hft hfo hs hc hcs r (laidMet.tail h) e
end Go.Proofs.YtipfmkfpaglkkaaGreatDoor.Lv
