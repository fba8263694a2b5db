/-
  A text that is built of closers, white space, a comma and a key: next reads it whole.
-/
import Derived.Test.Qxb6600868aPlainQuote
namespace Go.Proofs.Qxb6600868a.Pl

theorem noSp_cons {x : Int} {l : List Int} (h : isSp x = false) : NoSp (x :: l) := by
  intro y t e
  obtain ⟨rfl, _⟩ := List.cons.inj e
  exact h
theorem atB_app (pre l : List Int) (x b : Int) : atB (pre ++ (x :: l)) pre.length b = (x == b) := by
  unfold atB
  rw [getD_at0, Bool.eq_iff_iff]; simp
theorem closer_cases (o : Int) : closer o = 125 ∨ closer o = 93 := by unfold closer; split <;> simp
theorem closer_sp (o : Int) : isSp (closer o) = false := by rcases closer_cases o with h | h <;> rw [h] <;> rfl
theorem closer_comma (o : Int) : (closer o == 44) = false := by rcases closer_cases o with h | h <;> rw [h] <;> rfl

/-- Having read P (with the white space g at its end still to be passed over), next stands with m open. -/
structure Rch (op : List Int) (mo m : Nat) (P g : List Int) (s : Bool) : Prop where
  gap : AllSp g
  eq : ∀ rest, NoSp rest → nextF (P ++ (g ++ rest)) op mo 0 false = nextF (P ++ (g ++ rest)) op m P.length s

theorem Rch.start {op g : List Int} {mo : Nat} (hg : AllSp g) : Rch op mo mo [] g false := ⟨hg, fun _ _ => rfl⟩

theorem next_skip {P g rest : List Int} (s : Bool) (hg : AllSp g) (hr : NoSp rest) : skip (P ++ (g ++ rest)) P.length = P.length + g.length ∧ skipSp (P ++ (g ++ rest)) P.length s = (s || decide (0 < g.length)) :=
  ⟨skip_app hg hr, skipSp_app s hg hr⟩

theorem Rch.close {op : List Int} {mo m : Nat} {P g g' : List Int} {s : Bool} (h : Rch op mo (m + 1) P g s) (hg' : AllSp g') :
    Rch op mo m (P ++ g ++ [closer (op.getD m 0)]) g' (s || decide (0 < g.length)) := by
  refine ⟨hg', fun rest hr => ?_⟩
  have a1 : P ++ g ++ [closer (op.getD m 0)] ++ (g' ++ rest) = P ++ (g ++ (closer (op.getD m 0) :: (g' ++ rest))) := by simp
  have a2 : P ++ (g ++ (closer (op.getD m 0) :: (g' ++ rest))) = (P ++ g) ++ (closer (op.getD m 0) :: (g' ++ rest)) := by simp
  have hn : NoSp (closer (op.getD m 0) :: (g' ++ rest)) := noSp_cons (closer_sp _)
  obtain ⟨k1, k2⟩ := next_skip (P := P) s h.gap hn
  have e1 : ∀ b, atB (P ++ (g ++ (closer (op.getD m 0) :: (g' ++ rest)))) (P.length + g.length) b = (closer (op.getD m 0) == b) := by
    intro b
    rw [a2, ← List.length_append, atB_app]
  rw [a1, h.eq _ hn, nextF, k1, k2, e1, e1, closer_comma, if_pos (by simp), if_neg (by simp), if_pos (by simp)]
  congr 1
  simp; omega

/-- Nothing stays open. -/
theorem Rch.done {op : List Int} {mo : Nat} {P g : List Int} {s : Bool} (h : Rch op mo 0 P g s) {t : List Int} (ht : NoSp t) :
    nextF (P ++ g ++ t) op mo 0 false = ⟨0, (P ++ g).length, true, s || decide (0 < g.length)⟩ := by
  obtain ⟨k1, k2⟩ := next_skip (P := P) s h.gap ht
  rw [List.append_assoc, h.eq t ht, nextF, k1, k2, List.length_append]

theorem comma_step {op : List Int} {mo m : Nat} {P g g2 rest : List Int} {s : Bool} (h : Rch op mo (m + 1) P g s) (h2 : AllSp g2) (hr : NoSp rest) :
    nextF (P ++ g ++ [44] ++ g2 ++ rest) op mo 0 false =
      (if op.getD m 0 = 91 then ⟨m + 1, (P ++ g ++ [44] ++ g2).length, true, s || decide (0 < g.length) || decide (0 < g2.length)⟩
      else ⟨m + 1, (keyF (P ++ g ++ [44] ++ g2 ++ rest) (P ++ g ++ [44] ++ g2).length (s || decide (0 < g.length) || decide (0 < g2.length))).1,
        (keyF (P ++ g ++ [44] ++ g2 ++ rest) (P ++ g ++ [44] ++ g2).length (s || decide (0 < g.length) || decide (0 < g2.length))).2.1,
        (keyF (P ++ g ++ [44] ++ g2 ++ rest) (P ++ g ++ [44] ++ g2).length (s || decide (0 < g.length) || decide (0 < g2.length))).2.2⟩) := by
  have a1 : P ++ g ++ [44] ++ g2 ++ rest = P ++ (g ++ (44 :: (g2 ++ rest))) := by simp
  have a2 : P ++ (g ++ (44 :: (g2 ++ rest))) = (P ++ g) ++ (44 :: (g2 ++ rest)) := by simp
  have a3 : P ++ (g ++ (44 :: (g2 ++ rest))) = (P ++ g ++ [44]) ++ (g2 ++ rest) := by simp
  have hn : NoSp (44 :: (g2 ++ rest)) := noSp_cons (by rfl)
  obtain ⟨k1, k2⟩ := next_skip (P := P) s h.gap hn
  have e1 : atB (P ++ (g ++ (44 :: (g2 ++ rest)))) (P.length + g.length) 44 = true := by
    rw [a2, ← List.length_append, atB_app]; rfl
  obtain ⟨k3, k4⟩ := next_skip (P := P ++ g ++ [44]) (s || decide (0 < g.length)) h2 hr
  have l1 : (P ++ g ++ [44]).length = P.length + g.length + 1 := by simp; omega
  have l2 : (P ++ g ++ [44] ++ g2).length = P.length + g.length + 1 + g2.length := by simp; omega
  rw [← a3, l1] at k3 k4
  rw [a1, h.eq _ hn, nextF, k1, k2, e1, if_pos (by simp), if_pos rfl, k3, k4, l2]

theorem Rch.array {op : List Int} {mo m : Nat} {P g g2 t : List Int} {s : Bool} (h : Rch op mo (m + 1) P g s) (h2 : AllSp g2) (ht : NoSp t) (ho : op.getD m 0 = 91) :
    nextF (P ++ g ++ [44] ++ g2 ++ t) op mo 0 false = ⟨m + 1, (P ++ g ++ [44] ++ g2).length, true, s || decide (0 < g.length) || decide (0 < g2.length)⟩ := by
  rw [comma_step h h2 ht, if_pos ho]

theorem key_app {P q g3 g4 t : List Int} {s : Bool} (hq : Body q) (h3 : AllSp g3) (h4 : AllSp g4) (ht : NoSp t) :
    keyF (P ++ (34 :: (q ++ (34 :: (g3 ++ (58 :: (g4 ++ t))))))) P.length s = (P.length + q.length + g3.length + g4.length + 3, true, s || decide (0 < g3.length) || decide (0 < g4.length)) := by
  have e1 : atB (P ++ (34 :: (q ++ (34 :: (g3 ++ (58 :: (g4 ++ t))))))) P.length 34 = true := by rw [atB_app]; rfl
  have e2 := str_app (pre := P) (rest := g3 ++ (58 :: (g4 ++ t))) hq
  have a1 : P ++ (34 :: (q ++ (34 :: (g3 ++ (58 :: (g4 ++ t)))))) = (P ++ [34] ++ q ++ [34]) ++ (g3 ++ (58 :: (g4 ++ t))) := by simp
  have a2 : P ++ (34 :: (q ++ (34 :: (g3 ++ (58 :: (g4 ++ t)))))) = (P ++ [34] ++ q ++ [34] ++ g3) ++ (58 :: (g4 ++ t)) := by simp
  have a3 : P ++ (34 :: (q ++ (34 :: (g3 ++ (58 :: (g4 ++ t)))))) = (P ++ [34] ++ q ++ [34] ++ g3 ++ [58]) ++ (g4 ++ t) := by simp
  have l1 : (P ++ [34] ++ q ++ [34]).length = P.length + q.length + 2 := by simp; omega
  have l2 : (P ++ [34] ++ q ++ [34] ++ g3).length = P.length + q.length + 2 + g3.length := by simp; omega
  have l3 : (P ++ [34] ++ q ++ [34] ++ g3 ++ [58]).length = P.length + q.length + 2 + g3.length + 1 := by simp; omega
  have hn : NoSp (58 :: (g4 ++ t)) := noSp_cons (by rfl)
  obtain ⟨k1, k2⟩ := next_skip (P := P ++ [34] ++ q ++ [34]) s h3 hn
  rw [← a1, l1] at k1 k2
  obtain ⟨k3, k4⟩ := next_skip (P := P ++ [34] ++ q ++ [34] ++ g3 ++ [58]) (s || decide (0 < g3.length)) h4 ht
  rw [← a3, l3] at k3 k4
  have e3 : atB (P ++ (34 :: (q ++ (34 :: (g3 ++ (58 :: (g4 ++ t))))))) (P.length + q.length + 2 + g3.length) 58 = true := by rw [a2, ← l2, atB_app]; rfl
  unfold keyF
  rw [e1, if_pos rfl, e2, if_pos rfl]
  simp only
  rw [k1, k2, e3, if_pos rfl, k3, k4]
  congr 1; omega

theorem Rch.object {op : List Int} {mo m : Nat} {P g g2 q g3 g4 t : List Int} {s : Bool} (h : Rch op mo (m + 1) P g s) (h2 : AllSp g2) (hq : Body q) (h3 : AllSp g3) (h4 : AllSp g4) (ht : NoSp t) (ho : op.getD m 0 = 123) :
    nextF (P ++ g ++ [44] ++ g2 ++ [34] ++ q ++ [34] ++ g3 ++ [58] ++ g4 ++ t) op mo 0 false =
      ⟨m + 1, (P ++ g ++ [44] ++ g2 ++ [34] ++ q ++ [34] ++ g3 ++ [58] ++ g4).length, true, s || decide (0 < g.length) || decide (0 < g2.length) || decide (0 < g3.length) || decide (0 < g4.length)⟩ := by
  have a1 : P ++ g ++ [44] ++ g2 ++ [34] ++ q ++ [34] ++ g3 ++ [58] ++ g4 ++ t = (P ++ g ++ [44] ++ g2) ++ (34 :: (q ++ (34 :: (g3 ++ (58 :: (g4 ++ t)))))) := by simp
  have hn : NoSp (34 :: (q ++ (34 :: (g3 ++ (58 :: (g4 ++ t)))))) := noSp_cons (by rfl)
  rw [a1, comma_step h h2 hn, if_neg (by rw [ho]; decide), key_app hq h3 h4 ht]
  simp only [Nx.mk.injEq, true_and, and_true]
  simp; omega

end Go.Proofs.Qxb6600868a.Pl
