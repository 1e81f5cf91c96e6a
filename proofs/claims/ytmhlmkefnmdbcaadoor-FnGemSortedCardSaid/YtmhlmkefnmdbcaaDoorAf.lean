/- An append to a slice that is full (its capacity is its length), of at least one element, makes a new row: the old one is only read. And the cut of three indexes that makes a slice full. Conditions: those that the theorems state. -/
import Derived.Test.YtmhlmkefnmdbcaaDoorWWords
import Derived.ArgAppend
import Derived.Below
namespace Go.Proofs.YtmhlmkefnmdbcaaDoor.Af
open Go Go.RowKit Go.Proofs.YtmhlmkefnmdbcaaDoorW.PrintWords
variable {P : Program} {ops : Array Oper} {rest : List Oper} {o : Oper} {a : Act} {Q : Exit → Act → World → Prop} {α : Type}
theorem own_base {W W1 : World} {base e size : Nat} {v : Value} {n : Nat} {xs : List Value} (h : W1.ownsRow W.heap.size e size v n xs) (hb : base ≤ W.heap.size) : W1.ownsRow base e size v n xs := by
  obtain ⟨h1, h2⟩ := h
  refine ⟨h1, ?_⟩
  rcases h2 with h2 | ⟨g, cap, cur, e1, e2, e3⟩
  · exact .inl h2
  · exact .inr ⟨g, cap, cur, e1, Nat.le_trans hb e2, e3⟩
theorem own_new {W W1 : World} {e size : Nat} {v : Value} {n : Nat} {xs : List Value} (h : W1.ownsRow W.heap.size e size v n xs) (hn : 0 < n) : ∃ b, v.ownBlock = some b ∧ W.heap.size ≤ b := by
  rcases h.2 with ⟨_, h2⟩ | ⟨g, cap, cur, e1, e2, _⟩
  · omega
  · exact ⟨g, by rw [e1]; rfl, e2⟩
theorem full_run (d : Kd α) (hM : ∀ (W : World) (base : Nat) (ok : Nat → Prop) x cs, d.K W x cs → d.M W base ok x cs) {w0 W : World} (base : Nat) (t ty e : TypeId) (z : Value) (bytes : Nat)
    (ht : P.underlying t = some (.slice e)) (hinfo : (P.info? e).map (fun i => (i.zero, i.size, i.bytes)) = some (some z, d.sz, bytes)) (hz : z.cells.size = d.sz) (hs0 : 0 < d.sz) (hb0 : 0 < bytes)
    (A0 : Option Addr) (n0 : Nat) (xs ys : List α) (A : Option Addr) (m c : Nat) (ok : Nat → Prop)
    (HO : d.C W A0 n0 xs) (HR : d.C W A m ys) (hm0 : 0 < m) (hfresh : ∀ k, W.heap.size ≤ k → ok k)
    (HB : Below base w0 W) (hbase : base ≤ W.heap.size) (hl : (xs.length + m) * bytes ≤ 140737488355328) :
    ∃ v1 w1, (Builtin.append_ #[t, t] ty #[.slice A0 n0 n0, .slice A m c]).run P W = .ok v1 w1 ∧ d.R e w1 base ok v1 (xs ++ ys) ∧ Below base w0 w1 ∧ W.grownBy w1 (Value.slice none 0 0).ownBlock ∧ (v1.ownBlock = (Value.slice none 0 0).ownBlock ∨ ∃ b, v1.ownBlock = some b ∧ W.heap.size ≤ b) := by
  obtain ⟨i0, hi, hzz⟩ := Option.map_eq_some_iff.1 hinfo
  simp only [Prod.mk.injEq] at hzz
  obtain ⟨hz0, hz1, hz2⟩ := hzz
  have hm : ys.length = m := HR.1
  have hn : xs.length = n0 := HO.1
  have hlen : n0 + m ≤ 140737488355328 := by
    have := Nat.le_trans (Nat.le_mul_of_pos_right (xs.length + m) hb0) hl
    omega
  obtain ⟨ad, rfl, _⟩ := HR.2.2 hm0
  obtain ⟨news, hnr, hnc⟩ := ReadsRow.inner_ HR
  have hone : ∀ (l : List α) (cs : List Value), Reps (d.K W) d.sz l cs → ∀ u ∈ cs, u.oneCell' = true := by
    intro l cs hr u hu
    obtain ⟨q, hq, rfl⟩ := List.mem_iff_getElem.1 hu
    have hql : q / d.sz < l.length := by
      rw [Nat.div_lt_iff_lt_mul hs0]
      rw [← hr.1]
      exact hq
    have hc := hr.2 (q / d.sz) _ (List.getElem?_eq_getElem hql)
    refine d.K_one hc _ ?_
    rw [List.mem_iff_getElem?]
    refine ⟨q % d.sz, ?_⟩
    rw [List.getElem?_take, if_pos (Nat.mod_lt _ hs0), List.getElem?_drop, Nat.mul_comm, Nat.div_add_mod, List.getElem?_eq_getElem hq]
  obtain ⟨olds, hor, hoc⟩ : ∃ olds, Reps (d.K W) d.sz xs olds ∧ ∀ b, A0 = some b → ∀ j u, olds[j]? = some u → W.cell? (b.add j) = some u := by
    rcases A0 with _ | b
    · have h0 : n0 = 0 := by
        rcases Nat.eq_zero_or_pos n0 with h0 | h0
        · exact h0
        · obtain ⟨ad, h, _⟩ := HO.2.2 h0
          cases h
      obtain rfl : xs = [] := List.eq_nil_of_length_eq_zero (by omega)
      exact ⟨[], Reps.none _ _, fun b h => by cases h⟩
    · obtain ⟨olds, h1, h2⟩ := ReadsRow.inner_ HO
      exact ⟨olds, h1, fun b' hb => by injection hb with hb; subst hb; exact h2⟩
  have hnone : A0 = none → n0 = 0 ∧ n0 = 0 := by
    intro h
    subst h
    rcases Nat.eq_zero_or_pos n0 with h0 | h0
    · exact ⟨h0, h0⟩
    · obtain ⟨ad, h, _⟩ := HO.2.2 h0
      cases h
  have hrun : ∃ v1 w1, (Builtin.append_ #[t, t] ty #[.slice A0 n0 n0, .slice (some ad) m c]).run P W = .ok v1 w1 ∧ w1.ownsRow W.heap.size e d.sz v1 (n0 + m) (olds ++ news) ∧ W.grownBy w1 none := by
    rcases A0 with _ | b
    · obtain ⟨rfl, _⟩ := hnone rfl
      obtain rfl : olds = [] := List.eq_nil_of_length_eq_zero (by rw [hor.1, hn]; simp)
      obtain ⟨v1, w1, h1, h2, h3, _⟩ := run_append_own (P := P) W W.heap.size t ty e i0 z d.sz bytes ht hi hz0 hz1 hz2 hz hs0 (.slice none 0 0) 0 [] (World.ownsRow_nil W _ e d.sz) ad m c news (by rw [hnr.1, hm]) hnc (hone ys news hnr) (by simp only [maxLen]; omega) (by rw [← hn]; exact hl) (Nat.le_refl _)
      exact ⟨v1, w1, h1, h2, h3⟩
    · exact run_append_arg_grows (P := P) W t ty e i0 z d.sz bytes ht hi hz0 hz1 hz2 hz hs0 b n0 n0 olds (by rw [hor.1, hn]) (hoc b rfl) ad m c news (by rw [hnr.1, hm]) hnc (by omega) (by simp only [maxLen]; omega) (by rw [← hn]; exact hl)
  obtain ⟨v1, w1, hr1, hown, hg⟩ := hrun
  obtain ⟨b, hb, hle⟩ := own_new hown (by omega)
  have hB : Below W.heap.size W w1 := by
    exact (Below.refl W.heap.size W).grown hg (Nat.le_refl _) (fun k hk => by cases hk)
  refine ⟨v1, w1, hr1, ⟨fun k hk => ?_, olds ++ news, by rw [List.length_append, hn, hm]; exact own_base hown hbase, ?_⟩, HB.trans (hB.mono hbase), hg, .inr ⟨b, hb, hle⟩⟩
  · rw [hb] at hk
    injection hk with hk
    exact hfresh k (by omega)
  · exact Kd.reps_append (hor.imp_ (fun x cs hq => hM _ _ _ x cs (d.K_below hB hq))) (hnr.imp_ (fun x cs hq => hM _ _ _ x cs (d.K_below hB hq)))
theorem R_append_full (d : Kd α) (hM : ∀ (W : World) (base : Nat) (ok : Nat → Prop) x cs, d.K W x cs → d.M W base ok x cs) {w0 W : World} (base : Nat) (hgd : o.guard = none) (s x : Operand) (t e : TypeId) (z : Value) (bytes : Nat)
    (ho : o.op = .call { callee := .builtin .append, args := #[s, x], argTypes := #[t, t] })
    (ht : P.underlying t = some (.slice e)) (hinfo : (P.info? e).map (fun i => (i.zero, i.size, i.bytes)) = some (some z, d.sz, bytes)) (hz : z.cells.size = d.sz) (hs0 : 0 < d.sz) (hb0 : 0 < bytes)
    (A0 : Option Addr) (n0 : Nat) (xs ys : List α) (A : Option Addr) (m c : Nat) (ok : Nat → Prop) (hs : a.eval s = .slice A0 n0 n0) (hx : a.eval x = .slice A m c)
    (HO : d.C W A0 n0 xs) (HR : d.C W A m ys) (hm0 : 0 < m) (hfresh : ∀ k, W.heap.size ≤ k → ok k)
    (HB : Below base w0 W) (hbase : base ≤ W.heap.size) (hl : (xs.length + m) * bytes ≤ 140737488355328)
    (h : ∀ v1 w1, d.R e w1 base ok v1 (xs ++ ys) → Below base w0 w1 → W.grownBy w1 (Value.slice none 0 0).ownBlock → (v1.ownBlock = (Value.slice none 0 0).ownBlock ∨ ∃ b, v1.ownBlock = some b ∧ W.heap.size ≤ b) → wpList P ops Q rest (a.put o.dst v1) w1) :
    wpList P ops Q (o :: rest) a W := by
  obtain ⟨v1, w1, hr1, h1, h2, hg, hat⟩ := full_run (P := P) d hM base t o.type e z bytes ht hinfo hz hs0 hb0 A0 n0 xs ys A m c ok HO HR hm0 hfresh HB hbase hl
  refine wpList_plain hgd fun K hK => ?_
  unfold Oper.wp execOp
  simp only [ho, resolve, invoke, builtin, Sem.run_bind, Sem.run_pure, Result.andThen_ok, List.map_toArray, List.map_cons, List.map_nil, hs, hx, hr1]
  exact hK _ _ (h v1 w1 h1 h2 hg hat)
variable {Kc : Act → World → Prop}
theorem R_append_full_step (d : Kd α) (hM : ∀ (W : World) (base : Nat) (ok : Nat → Prop) x cs, d.K W x cs → d.M W base ok x cs) {w0 W : World} (base : Nat) (hw : Region.wanted o (yielded ops a.tmps) = true) (s x : Operand) (t e : TypeId) (z : Value) (bytes : Nat)
    (ho : o.op = .call { callee := .builtin .append, args := #[s, x], argTypes := #[t, t] })
    (ht : P.underlying t = some (.slice e)) (hinfo : (P.info? e).map (fun i => (i.zero, i.size, i.bytes)) = some (some z, d.sz, bytes)) (hz : z.cells.size = d.sz) (hs0 : 0 < d.sz) (hb0 : 0 < bytes)
    (A0 : Option Addr) (n0 : Nat) (xs ys : List α) (A : Option Addr) (m c : Nat) (ok : Nat → Prop) (hs : a.eval s = .slice A0 n0 n0) (hx : a.eval x = .slice A m c)
    (HO : d.C W A0 n0 xs) (HR : d.C W A m ys) (hm0 : 0 < m) (hfresh : ∀ k, W.heap.size ≤ k → ok k)
    (HB : Below base w0 W) (hbase : base ≤ W.heap.size) (hl : (xs.length + m) * bytes ≤ 140737488355328)
    (h : ∀ v1 w1, d.R e w1 base ok v1 (xs ++ ys) → Below base w0 w1 → W.grownBy w1 (Value.slice none 0 0).ownBlock → (v1.ownBlock = (Value.slice none 0 0).ownBlock ∨ ∃ b, v1.ownBlock = some b ∧ W.heap.size ≤ b) → Kc (a.put o.dst v1) w1) :
    if Region.wanted o (yielded ops a.tmps) = true then Oper.wp P o a W Kc Q else Kc (a.put o.dst undef) W := by
  obtain ⟨v1, w1, hr1, h1, h2, hg, hat⟩ := full_run (P := P) d hM base t o.type e z bytes ht hinfo hz hs0 hb0 A0 n0 xs ys A m c ok HO HR hm0 hfresh HB hbase hl
  rw [if_pos hw]
  unfold Oper.wp execOp
  simp only [ho, resolve, invoke, builtin, Sem.run_bind, Sem.run_pure, Result.andThen_ok, List.map_toArray, List.map_cons, List.map_nil, hs, hx, hr1]
  exact h v1 w1 h1 h2 hg hat
theorem cut_full (t e : TypeId) (kh km : IntKind) {i : TypeInfo} (ht : P.underlying t = some (.slice e)) (hi : P.info? e = some i) (A : Option Addr) (n c : Nat) (j : Int) (h0 : 0 ≤ j) (hm : j ≤ n) (hc : n ≤ c) :
    ∀ W : World, (Instr.slice t (.slice A n c) none (some (.int kh j)) (some (.int km j))).run P W = .ok (.slice A j.toNat j.toNat) W := by
  intro W
  have hel : P.elem t = e := by simp [Program.elem, ht]
  have ha : (A.map fun x => x.add 0) = A := by cases A <;> simp [Addr.add]
  have hle : j ≤ (c : Int) := by omega
  have hj : (Instr.sliceBound (Value.int kh j) j.toNat BoundsCode.slice3B).run P W = .ok j.toNat W := run_sliceBound (P := P) W kh j j.toNat BoundsCode.slice3B h0 (by omega)
  simp [Instr.slice, run_underlying ht, Instr.sliceBounds, run_sliceBound, hj, sizeOf, typeInfo, hi, Result.andThen, ha, h0, hle]
end Go.Proofs.YtmhlmkefnmdbcaaDoor.Af
