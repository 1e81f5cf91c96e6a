/- FnRedHatMarks: for every four texts (within the law's own bounds, else the law answers true) which marks stand between letters and digits, and how many, changes nothing in how the package compares parts of Red Hat versions. -/
import Derived.Test.YtciojhhncfnagaaDoorZ12
import Derived.Test.YtciojhhncfnagaaDoorComS
import Derived.Test.YtciojhhncfnagaaDoorComP
import Derived.Test.YtciojhhncfnagaaDoorComQ
namespace Go.Proofs.YtciojhhncfnagaaDoor.Pure
open Go Go.RowKit Go.Proofs.YtciojhhncfnagaaDoor.Z Go.Proofs.YtciojhhncfnagaaDoor.Evs Go.Proofs.YtciojhhncfnagaaDoor.By Go.Proofs.YtciojhhncfnagaaDoor.Com Go.Proofs.YtciojhhncfnagaaDoor.Lx Go.Proofs.YtciojhhncfnagaaDoor.Rh Go.Proofs.YtciojhhncfnagaaDoor.Rk Go.Proofs.YtciojhhncfnagaaDoorW.PrintWords Go.Proofs.YtciojhhncfnagaaDoorW.PrintLast
set_option linter.unusedVariables false
set_option linter.unusedSimpArgs false

def mk (c : UInt8) : Bool := c == 46 || c == 95 || c == 43
theorem mk_trim {c : UInt8} (h : mk c = true) : rhTrim c = true := by
  simp only [mk, Bool.or_eq_true, beq_iff_eq] at h
  rcases h with (h | h) | h <;> (subst h; decide)
theorem c46 (c : UInt8) : ((c.toNat : Int) = 46) ↔ c = 46 := c_eq c 46
theorem c95 (c : UInt8) : ((c.toNat : Int) = 95) ↔ c = 95 := c_eq c 95
theorem c43 (c : UInt8) : ((c.toNat : Int) = 43) ↔ c = 43 := c_eq c 43
/-- One text of marks looked through: true at once at another byte, else on to the next text. -/
theorem marks_1 (x0 x1 x2 x3 : ByteArray) (s : List UInt8) (hs0 : s.length ≤ 1500) (y : List ByteArray) (n q : Int) (hnx : s.all mk = true → Ev (fun k => laws_FnRedHatMarks.l0 k x0 x1 x2 x3 y n (wrap64 (q + 1))) true) (d : Nat) :
    ∀ j : Nat, j + d = s.length → (s.take j).all mk = true → Ev (fun k => laws_FnRedHatMarks.l1 k x0 x1 x2 x3 (ofL s) (j : Int) y n q) true := by
  have hs := ofL_size s
  induction d with
  | zero =>
    intro j h hp
    rw [List.take_of_length_le (by omega)] at hp
    exact Ev.step (fun _ => by rw [laws_FnRedHatMarks.l1]) (ev_neg (by omega) (hnx hp))
  | succ d ih =>
    intro j h hp
    have hj : j < s.length := by omega
    have hc := bt_ofL s j hj
    have nx : mk s[j] = true → (s.take (j + 1)).all mk = true := fun hq => by
      rw [List.take_succ_eq_append_getElem hj, List.all_append, hp]
      simp [hq]
    have go : mk s[j] = true → Ev (fun k => laws_FnRedHatMarks.l1 k x0 x1 x2 x3 (ofL s) ((j + 1 : Nat) : Int) y n q) true := fun hq => ih (j + 1) (by omega) (nx hq)
    refine Ev.step (fun _ => by rw [laws_FnRedHatMarks.l1, hc, wrap_nat (by omega)]) (ev_pos (by omega) (ev_pos (by omega) ?_))
    refine ev_ite (fun e => go (by simp [mk, (c46 _).1 e])) (fun e1 => ev_ite (fun e => go (by simp [mk, (c95 _).1 e])) (fun e2 => ev_ite (fun e => go (by simp [mk, (c43 _).1 e])) (fun e3 => ev_now rfl)))
theorem plain_all (l : List UInt8) (h : (l.all (plainC []) && !l.isEmpty) = true) : l.all (fun c => dg c || lt c) = true := by
  rw [Bool.and_eq_true] at h
  obtain ⟨h1, _⟩ := h
  rw [List.all_eq_true]
  intro c hc
  have := List.all_eq_true.1 h1 c hc
  simpa [plainC] using this

/- ∀ a0 a1 a2 a3, .. → ∃ k, laws_FnRedHatMarks.f k a0 a1 a2 a3 = some true -/
theorem FnRedHatMarks : laws_FnRedHatMarks.Pure := by
  intro a0 a1 a2 a3 h0 h1 h2 h3
  refine Ev.rounds ?_
  unfold laws_FnRedHatMarks.f
  have z0 : Ev (fun k => laws_FnRedHatMarks.j0 k a0 a1 a2 a3 true) true := Ev.step (fun _ => by rw [laws_FnRedHatMarks.j0]) (ev_t (ev_now rfl))
  have z1 : Ev (fun k => laws_FnRedHatMarks.j1 k a0 a1 a2 a3 true) true := Ev.step (fun _ => by rw [laws_FnRedHatMarks.j1]) (ev_t (ev_now rfl))
  refine ev_ite (fun _ => z0) (fun c0 => ev_ite (fun _ => z0) (fun c1 => ev_ite (fun _ => z0) (fun c2 => ?_)))
  cases c3 : decide ((a3.size : Int) > 2147483647) with
  | true => exact z0
  | false =>
    obtain ⟨r, hr, hq⟩ := short4 a0 a1 a2 a3
    have s0' : (⟨#[]⟩ : ByteArray) = ofL [] := rfl
    refine Ev.step (fun _ => by rw [laws_FnRedHatMarks.j0, s0']) ?_
    refine ev_f (Ev.bind hr ?_)
    cases r with
    | false => exact ev_f z1
    | true =>
      obtain ⟨s0, s1, s2, s3⟩ := hq rfl
      have l0 := bl_length a0
      have l1 := bl_length a1
      have l2 := bl_length a2
      have l3 := bl_length a3
      have p0 := plain_ev (bl a0) [] (by omega) (by simp)
      have p1 := plain_ev (bl a1) [] (by omega) (by simp)
      refine ev_t (Ev.bind p0 ?_)
      cases g0 : ((bl a0).all (plainC []) && !(bl a0).isEmpty) with
      | false => exact ev_f z1
      | true =>
        refine ev_t (Ev.bind p1 ?_)
        cases g1 : ((bl a1).all (plainC []) && !(bl a1).isEmpty) with
        | false => exact ev_f z1
        | true =>
          refine ev_t ?_
          refine ev_ite (fun _ => z1) (fun e2 => ?_)
          cases e3 : a3.toList.isEmpty with
          | true => exact z1
          | false =>
            rw [toList_bl] at e2 e3
            obtain ⟨x, m, hx⟩ : ∃ x m, bl a2 = x :: m := by
              cases hb : bl a2 with
              | nil => exact absurd hb e2
              | cons x m => exact ⟨x, m, rfl⟩
            obtain ⟨y, n, hy⟩ : ∃ y n, bl a3 = y :: n := by
              cases hb : bl a3 with
              | nil => rw [hb] at e3; cases e3
              | cons y n => exact ⟨y, n, rfl⟩
            refine Ev.step (fun _ => by rw [laws_FnRedHatMarks.j1]) ?_
            refine ev_f ?_
            show Ev (fun k => laws_FnRedHatMarks.l0 k a0 a1 a2 a3 [a2, a3] ((2 : Nat) : Int) 0) true
            have fin : (bl a2).all mk = true → (bl a3).all mk = true → Ev (fun k => laws_FnRedHatMarks.l0 k a0 a1 a2 a3 [a2, a3] ((2 : Nat) : Int) 2) true := by
              intro m2 m3
              have t2 : (x :: m).all rhTrim = true := by
                rw [← hx, List.all_eq_true]
                exact fun c hc => mk_trim (List.all_eq_true.1 m2 c hc)
              have t3 : (y :: n).all rhTrim = true := by
                rw [← hy, List.all_eq_true]
                exact fun c hc => mk_trim (List.all_eq_true.1 m3 c hc)
              have key := rhK_between _ (bl a0) (Nat.lt_succ_self _) (plain_all _ g0) x y m n (bl a1) t2 t3
              have hz : impl_RedHatParts.f ((a0 ++ a2) ++ a1) ((a0 ++ a3) ++ a1) = some 0 := by
                have e1 : (a0 ++ a2) ++ a1 = ofL (bl a0 ++ (x :: m) ++ bl a1) := by rw [← hx, ← ofL_append, ← ofL_append]; rfl
                have e2 : (a0 ++ a3) ++ a1 = ofL (bl a0 ++ (y :: n) ++ bl a1) := by rw [← hy, ← ofL_append, ← ofL_append]; rfl
                have lx : (x :: m).length = a2.size := by rw [← hx]; exact l2
                have ly : (y :: n).length = a3.size := by rw [← hy]; exact l3
                rw [e1, e2, rh_parts _ _ (by simp only [List.length_append]; omega) (by simp only [List.length_append]; omega), rhC, rhKT, rhKT, key, if_neg (by simp), if_neg (by simp), lex_self]
              refine Ev.step (fun _ => by rw [laws_FnRedHatMarks.l0, hz]) ?_
              have q1 : (a0 ++ a2).size = a0.size + a2.size := by simp
              have q2 : (a0 ++ a3).size = a0.size + a3.size := by simp
              refine ev_neg (by omega) (Ev.bind awake_ev (ev_t (ev_pos (by omega) (ev_pos (by omega) (ev_pos (by omega) (ev_pos (by omega) (ev_now rfl)))))))
            have one : (bl a2).all mk = true → Ev (fun k => laws_FnRedHatMarks.l0 k a0 a1 a2 a3 [a2, a3] ((2 : Nat) : Int) 1) true := by
              intro m2
              refine Ev.step (fun _ => by rw [laws_FnRedHatMarks.l0]) ?_
              refine ev_pos (by decide) (ev_pos (by decide) (ev_pos (by show (1 : Int) < 2; decide) ?_))
              exact marks_1 a0 a1 a2 a3 (bl a3) (by omega) [a2, a3] ((2 : Nat) : Int) 1 (fun m3 => by rw [show wrap64 ((1 : Int) + 1) = 2 from wrap_in (by decide) (by decide)]; exact fin m2 m3) (bl a3).length 0 (by omega) rfl
            refine Ev.step (fun _ => by rw [laws_FnRedHatMarks.l0]) ?_
            refine ev_pos (by decide) (ev_pos (by decide) (ev_pos (by show (0 : Int) < 2; decide) ?_))
            exact marks_1 a0 a1 a2 a3 (bl a2) (by omega) [a2, a3] ((2 : Nat) : Int) 0 (fun m2 => by rw [show wrap64 ((0 : Int) + 1) = 1 from wrap_in (by decide) (by decide)]; exact one m2) (bl a2).length 0 (by omega) rfl
end Go.Proofs.YtciojhhncfnagaaDoor.Pure
