/- strings.Builder, as this program bears it: WriteString, WriteRune of a rune below 128, String; a builder is told by the kit's own word 'Lib.IsBuilderF'; what else lies in memory is kept ('Lib.OthersKept'). -/
import Derived.Shelf.Strings.BuilderK
import Derived.Lib.RuneBytes
import Derived.Lib.FrozenHead2
import Derived.WalkKit
import Derived.BigCall
import Derived.Test.YtmhlmkefnmdbcaaDoorProg
namespace Go.Proofs.YtmhlmkefnmdbcaaDoor.Bd
open Go Go.RowKit
set_option linter.unusedVariables false
set_option linter.unusedSimpArgs false

theorem infoByte : (Tryd.prog.info? 5).map (fun i => (i.zero, i.size, i.bytes)) = some (some (.int .u8 0), 1, 1) := by kernel_rfl
theorem sizeB : (Tryd.prog.info? 102).map (·.size) = some 2 := by kernel_rfl
theorem liesB : liesAt Tryd.prog Tryd.prog.depth 102 (2 / Tryd.prog.cellsOf 102) 0 102 1 = true := by kernel_rfl
abbrev Is (B b : Nat) (bs : List Value) (w : World) : Prop := Lib.IsBuilderF 102 5 B b bs w
abbrev At (B b : Nat) (bs : List Value) (w : World) : Prop := Lib.BuilderAtF 102 5 B b (.pointer (some ⟨b, 0, none⟩)) bs w

set_option maxHeartbeats 1000000 in
set_option maxRecDepth 100000 in
theorem copyCheck (B b : Nat) (bs : List Value) (w : World) (h : Is B b bs w) :
    Calls Tryd.prog 95 #[.pointer (some ⟨b, 0, none⟩)] w fun e w' => e = .returned (.tuple #[]) ∧ At B b bs w' ∧ Below B w w' ∧ Lib.OthersKept 5 (some b) w w' := by
  obtain ⟨j, hj, hjs⟩ := Option.map_eq_some_iff.1 sizeB
  rcases h with h | h
  · have c0 := h.cell0
    have f0 := h.frozen0
    have hs := h.shape
    go_enter Tryd.func95, Tryd.ntmps95
    go_wp2
    rw [Lib.run_to_unsafe w ⟨b, 0, none⟩ Tryd.underlying100 Tryd.underlying131 hj (by rw [hjs]; decide) hs (Nat.zero_lt_succ 1)]
    simp only [Result.andThen]
    rw [Oper.upon_value]
    go_wp2
    rw [run_callFunc_extern Tryd.func103 (by kernel_rfl) (by kernel_rfl) (by kernel_rfl) (e := Extern.AbiNoEscape.same) (by kernel_rfl)]
    rw [Lib.run_noEscape]
    simp only [Result.andThen]
    rw [Oper.upon_value]
    go_wp2
    rw [Lib.run_from_unsafe w ⟨b, 0, none⟩ Tryd.underlying131 Tryd.underlying100 hj hs liesB]
    simp only [Result.andThen]
    rw [Oper.upon_value]
    go_wp2
    go_end0
    exact ⟨rfl, h.used _, (Below.refl B w).setCell (p := ⟨b, 0, none⟩) h.1 _, (Lib.OthersKept.refl _ _ w).setCell ⟨b, 0, none⟩ rfl _⟩
  · have c0 := h.cell0
    go_enter Tryd.func95, Tryd.ntmps95
    go_wp2
    rw [Lib.run_neq_ptr_same w _ Tryd.underlying100 hj]
    go_wp2
    go_end0
    exact ⟨rfl, h, Below.refl B _, Lib.OthersKept.refl _ _ _⟩

set_option maxHeartbeats 2000000 in
set_option maxRecDepth 100000 in
theorem writeString (B b : Nat) (bs : List Value) (s : ByteArray) (w : World) (h : Is B b bs w) (hlen : bs.length + s.size ≤ 140737488355328) (hBw : B ≤ w.heap.size) :
    Calls Tryd.prog 82 #[.pointer (some ⟨b, 0, none⟩), .string s] w fun e w' => e = .returned (.tuple #[.int .i64 s.size, .nilIface]) ∧ At B b (bs ++ Lib.strCells s) w' ∧ Below B w w' ∧ Lib.OthersKept 5 (some b) w w' := by
  obtain ⟨i0, hi, hz0, hz1, hz2⟩ := info_parts infoByte
  go_enter Tryd.func82, Tryd.ntmps82
  go_wp2_with (go_at_call 95; refine (copyCheck B b bs _ h).mono ?_)
  rintro e w1 ⟨rfl, h1, hb1, hk1⟩
  obtain ⟨hB, v, hbk, hown, hne⟩ := h1
  have c0 : w1.cell? ⟨b, 0, none⟩ = some (.pointer (some ⟨b, 0, none⟩)) := by rw [Lib.cell_of_heap hbk]; rfl
  have c1 : w1.cell? ⟨b, 1, none⟩ = some v := by rw [Lib.cell_of_heap hbk]; rfl
  go_wp2_with (at_builtin; refine Lib.wpList_append_own_stringF _ rfl _ _ 91 9 rfl B 5 i0 Tryd.underlying91 Tryd.underlying9 hi hz0 hz1 hz2 _ _ _ rfl hown s rfl ?c3 ?c4 ?c5 ?_)
  case c3 => unfold maxLen; omega
  case c4 => omega
  case c5 => have := hb1.size; omega
  intro v' w2 hown' hgrow _
  have hlt : b < w1.heap.size := (Array.getElem?_eq_some_iff.1 hbk).1
  have hb2 : w2.heap[b]? = some (.cells #[.pointer (some ⟨b, 0, none⟩), v] 102 (0, 0)) := by
    rw [hgrow.block b hlt (fun e => hne e.symm)]
    exact hbk
  have d0 : w2.cell? ⟨b, 0, none⟩ = some (.pointer (some ⟨b, 0, none⟩)) := by rw [Lib.cell_of_heap hb2]; rfl
  have d1 : w2.cell? ⟨b, 1, none⟩ = some v := by rw [Lib.cell_of_heap hb2]; rfl
  have f1 : w2.frozen? ⟨b, 1, none⟩ = false := Lib.frozen_of_heap hb2 1
  obtain ⟨ao, n', cap, rfl⟩ : ∃ ao n' cap, v' = .slice ao n' cap := by
    rcases hown'.2 with ⟨hv, _⟩ | ⟨g, cap, cur, fz, hv, _⟩
    · exact ⟨_, _, _, hv⟩
    · exact ⟨_, _, _, hv⟩
  go_wp2
  go_ret2
  refine ⟨rfl, ?_, ?_, (hk1.grown hgrow (Lib.ownsRowF_kind hown)).setCell ⟨b, 1, none⟩ rfl _⟩
  · exact Lib.BuilderAtF.put (T := 102) (e := 5) hB hb2 (bs' := bs ++ Lib.strCells s) (by simpa [Lib.strCells_length] using hown') (by decide)
  · exact (hb1.grown hgrow (by have := hb1.size; omega) (fun k hk => (hown.lt k hk).1)).setCell (p := ⟨b, 1, none⟩) hB _

set_option maxHeartbeats 2000000 in
set_option maxRecDepth 100000 in
/-- utf8.AppendRune of a rune below 128 onto a row of the call's own. -/
theorem appendRune (B : Nat) (v : Value) (n : Nat) (xs : List Value) (c : Nat) (hc : c < 128) (w : World) (hown : w.ownsRowF B 5 1 v n xs) (hlen : n + 1 ≤ 140737488355328) (hBw : B ≤ w.heap.size) :
    Calls Tryd.prog 96 #[v, .int .i32 c] w fun e w' => ∃ v', e = .returned v' ∧ w'.ownsRowF B 5 1 v' (n + 1) (xs ++ [.int .u8 c]) ∧ (w.alloc (.cells #[.int .u8 c] 5)).grownBy w' v.ownBlock := by
  obtain ⟨i0, hi, hz0, hz1, hz2⟩ := info_parts infoByte
  have h1 : (c : Int) ≤ 127 := by omega
  have h0 : (0 : Int) ≤ c := by omega
  go_enter Tryd.func96, Tryd.ntmps96
  go_wp2_with (at_builtin; refine wpList_append_ownF _ rfl _ _ 91 rfl B 5 i0 (.int .u8 0) 1 1 Tryd.underlying91 hi hz0 hz1 hz2 rfl (by decide) _ _ _ rfl (hown.alloc _) ⟨w.heap.size, 0, none⟩ 1 1 [.int .u8 c] rfl rfl ?c1 ?c2 ?c3 ?c4 ?c5 ?_)
  all_goals first
    | (intro v' w2 hown' hgrow _; go_wp2; go_ret; exact ⟨_, rfl, hown', hgrow⟩)
    | (unfold maxLen; omega)
    | omega
    | (simp; omega)
    | rfl
    | (intro u hu; simp at hu; subst hu; rfl)
    | (intro j u hj
       match j, hj with
       | 0, hj => simp at hj; subst hj; simp [Addr.add]
       | (j + 1), hj => simp at hj)

set_option maxHeartbeats 2000000 in
set_option maxRecDepth 100000 in
/-- (*strings.Builder).WriteRune of a rune below 128: one byte more. -/
theorem writeRune (B b : Nat) (bs : List Value) (c : Nat) (hc : c < 128) (w : World) (h : Is B b bs w) (hlen : bs.length + 1 ≤ 140737488355328) (hBw : B ≤ w.heap.size) :
    Calls Tryd.prog 84 #[.pointer (some ⟨b, 0, none⟩), .int .i32 c] w fun e w' => e = .returned (.tuple #[.int .i64 1, .nilIface]) ∧ At B b (bs ++ [.int .u8 c]) w' ∧ Below B w w' ∧ Lib.OthersKept 5 (some b) w w' := by
  go_enter Tryd.func84, Tryd.ntmps84
  go_wp2_with (go_at_call 95; refine (copyCheck B b bs _ h).mono ?_)
  rintro e w1 ⟨rfl, h1, hb1, hk1⟩
  obtain ⟨hB, v, hbk, hown, hne⟩ := h1
  obtain ⟨ao, n', cap, rfl, hn'⟩ : ∃ ao n' cap, v = .slice ao n' cap ∧ n' = bs.length := by
    rcases hown.2 with ⟨hv, h0⟩ | ⟨g, cap, cur, fz, hv, _⟩
    · exact ⟨_, _, _, hv, by omega⟩
    · exact ⟨_, _, _, hv, rfl⟩
  subst hn'
  have c0 : w1.cell? ⟨b, 0, none⟩ = some (.pointer (some ⟨b, 0, none⟩)) := by rw [Lib.cell_of_heap hbk]; rfl
  have c1 : w1.cell? ⟨b, 1, none⟩ = some (.slice ao bs.length cap) := by rw [Lib.cell_of_heap hbk]; rfl
  have hsz := hb1.size
  go_wp2_with (go_at_call 96; refine (appendRune B _ bs.length bs c hc _ hown (by omega) (by omega)).mono ?_)
  rintro e w2 ⟨v', rfl, hown', hgrow⟩
  have hlt : b < w1.heap.size := (Array.getElem?_eq_some_iff.1 hbk).1
  have hb2 : w2.heap[b]? = some (.cells #[.pointer (some ⟨b, 0, none⟩), .slice ao bs.length cap] 102 (0, 0)) := by
    rw [hgrow.block b (by simp; omega) (fun e => hne e.symm), Lib.alloc_old w1 _ b hlt]
    exact hbk
  have d0 : w2.cell? ⟨b, 0, none⟩ = some (.pointer (some ⟨b, 0, none⟩)) := by rw [Lib.cell_of_heap hb2]; rfl
  have d1 : w2.cell? ⟨b, 1, none⟩ = some (.slice ao bs.length cap) := by rw [Lib.cell_of_heap hb2]; rfl
  have f1 : w2.frozen? ⟨b, 1, none⟩ = false := Lib.frozen_of_heap hb2 1
  obtain ⟨ao', n'', cap', rfl, hn''⟩ : ∃ ao n' cap, v' = .slice ao n' cap ∧ n' = bs.length + 1 := by
    rcases hown'.2 with ⟨hv, h0⟩ | ⟨g, cap, cur, fz, hv, _⟩
    · omega
    · exact ⟨_, _, _, hv, rfl⟩
  subst hn''
  have hm : bs.length + 1 ≤ 140737488355328 := hlen
  go_wp2
  go_ret2
  refine ⟨?_, ?_, ?_, ((hk1.alloc _).grown hgrow (Lib.ownsRowF_kind (hown.alloc _))).setCell ⟨b, 1, none⟩ rfl _⟩
  · have e : ((bs.length : Int) + 1 - (bs.length : Int)) = 1 := by omega
    simp [e]
  · exact Lib.BuilderAtF.put (T := 102) (e := 5) hB hb2 (bs' := bs ++ [.int .u8 c]) (by simpa using hown') (by decide)
  · exact ((hb1.alloc (by omega) _).grown hgrow (by simp; omega) (fun k hk => (hown.lt k hk).1)).setCell (p := ⟨b, 1, none⟩) hB _
end Go.Proofs.YtmhlmkefnmdbcaaDoor.Bd
