/- Small words on 'Ev' (with enough rounds a printed function answers r) and on the walk's integers. -/
import Derived.Lib.Strings
import Derived.Test.YtipfmkfpaglkkaaGreatDoorWW
namespace Go.Proofs.YtipfmkfpaglkkaaGreatDoor.Evs
open Go.RowKit Go.Proofs.YtipfmkfpaglkkaaGreatDoorW.PrintWords Go.Proofs.YtipfmkfpaglkkaaGreatDoorW.PrintLast
set_option linter.unusedVariables false

theorem ev_pos {α : Type} {c : Prop} [Decidable c] {f g : Nat → Option α} {r : α} (h : c) (k : Ev f r) : Ev (fun n => if c then f n else g n) r := Ev.congr (fun _ => if_pos h) k
theorem ev_neg {α : Type} {c : Prop} [Decidable c] {f g : Nat → Option α} {r : α} (h : ¬ c) (k : Ev g r) : Ev (fun n => if c then f n else g n) r := Ev.congr (fun _ => if_neg h) k
theorem ev_t {α : Type} {f g : Nat → Option α} {r : α} (k : Ev f r) : Ev (fun n => if true = true then f n else g n) r := ev_pos rfl k
theorem ev_f {α : Type} {f g : Nat → Option α} {r : α} (k : Ev g r) : Ev (fun n => if false = true then f n else g n) r := ev_neg (by decide) k
theorem ev_now {α : Type} {r s : α} (h : r = s) : Ev (fun _ => some r) s := h ▸ Ev.now r
theorem ev_eq {α : Type} {f : Nat → Option α} {r s : α} (h : Ev f r) (e : r = s) : Ev f s := e ▸ h
theorem ev_const {α : Type} {o : Option α} {r : α} (h : o = some r) : Ev (fun _ => o) r := ⟨0, fun _ _ => h⟩
theorem wrap_nat {i : Nat} (h : (i : Int) < 9223372036854775807) : wrap64 ((i : Int) + 1) = ((i + 1 : Nat) : Int) := by unfold wrap64; omega
theorem wrap_in {x : Int} (h0 : -9223372036854775808 ≤ x) (h1 : x ≤ 9223372036854775807) : wrap64 x = x := by unfold wrap64; omega
theorem rdOf_nat {α : Type} (z : α) (xs : List α) (i : Nat) : rdOf z xs (i : Int) = xs.getD i z := by simp [rdOf]
theorem rd_nat (xs : List Int) (i : Nat) : rd xs (i : Int) = xs.getD i 0 := by simp [rd]
theorem bt_nat (s : ByteArray) (i : Nat) (h : i < s.size) : bt s (i : Int) = (s[i].toNat : Int) := by simp [bt, h]
end Go.Proofs.YtipfmkfpaglkkaaGreatDoor.Evs
