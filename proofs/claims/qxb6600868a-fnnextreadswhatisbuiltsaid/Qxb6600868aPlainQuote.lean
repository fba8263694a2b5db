/-
  A key as a JSON string: the string step passes over it.
-/
import Derived.Test.Qxb6600868aPlainStray
namespace Go.Proofs.Qxb6600868a.Pl

theorem getD_at (pre r : List Int) (k : Nat) : (pre ++ r).getD (pre.length + k) 0 = r.getD k 0 := by
  simp [List.getD_eq_getElem?_getD, List.getElem?_append_right]
theorem getD_at0 (pre r : List Int) : (pre ++ r).getD pre.length 0 = r.getD 0 0 := getD_at pre r 0

/-- The string step goes over q, whatever stands around it, and spends at most |q| of its fuel. -/
def Body (q : List Int) : Prop := ∀ (pre rest : List Int) (f : Nat), ∃ f', f ≤ f' ∧ strF (pre ++ (q ++ rest)) (f + q.length) pre.length = strF (pre ++ (q ++ rest)) f' (pre.length + q.length)

theorem Body.nil : Body [] := fun pre rest f => ⟨f, Nat.le_refl _, by simp⟩
theorem Body.append {q r : List Int} (hq : Body q) (hr : Body r) : Body (q ++ r) := by
  intro pre rest f
  obtain ⟨f1, h1, e1⟩ := hq pre (r ++ rest) (f + r.length)
  obtain ⟨f2, h2, e2⟩ := hr (pre ++ q) rest (f1 - r.length)
  refine ⟨f2, by omega, ?_⟩
  have a1 : pre ++ (q ++ r ++ rest) = pre ++ (q ++ (r ++ rest)) := by simp
  have a2 : pre ++ q ++ (r ++ rest) = pre ++ (q ++ (r ++ rest)) := by simp
  rw [a2, show f1 - r.length + r.length = f1 by omega, List.length_append] at e2
  rw [a1, List.length_append, show f + (q.length + r.length) = f + r.length + q.length by omega, e1, e2, Nat.add_assoc]

theorem Body.raw {x : Int} (h1 : x ≠ 34) (h2 : x ≠ 92) (h3 : ¬ x < 32) : Body [x] := by
  intro pre rest f
  refine ⟨f, Nat.le_refl _, ?_⟩
  have e : (pre ++ ([x] ++ rest)).getD pre.length 0 = x := by rw [getD_at0]; rfl
  show strF _ (f + 1) _ = _
  rw [strF, e, if_pos (by simp), if_neg h1, if_neg h2, if_neg h3]; rfl

theorem esc_short_at {pre rest : List Int} {y : Int} (hy : isEsc y = true) : esc (pre ++ (92 :: y :: rest)) pre.length = (pre.length + 1, true) := by
  unfold esc
  rw [getD_at, if_pos (by simp), if_pos (by simpa using hy)]
theorem Body.short {y : Int} (hy : isEsc y = true) : Body [92, y] := by
  intro pre rest f
  refine ⟨f + 1, by omega, ?_⟩
  have e : (pre ++ (92 :: y :: rest)).getD pre.length 0 = 92 := by rw [getD_at0]; rfl
  show strF (pre ++ (92 :: y :: rest)) (f + 1 + 1) _ = strF (pre ++ (92 :: y :: rest)) (f + 1) (pre.length + 2)
  rw [strF, e, if_pos (by simp), if_neg (by decide), if_pos rfl, esc_short_at hy, if_pos rfl]

theorem esc_long_at {pre rest : List Int} {h0 h1 h2 h3 : Int} (k0 : isHex h0 = true) (k1 : isHex h1 = true) (k2 : isHex h2 = true) (k3 : isHex h3 = true) :
    esc (pre ++ (92 :: 117 :: h0 :: h1 :: h2 :: h3 :: rest)) pre.length = (pre.length + 5, true) := by
  have g : ∀ k, (pre ++ (92 :: 117 :: h0 :: h1 :: h2 :: h3 :: rest)).getD (pre.length + k) 0 = (92 :: 117 :: h0 :: h1 :: h2 :: h3 :: rest : List Int).getD k 0 := getD_at _ _
  have hL : (pre ++ (92 :: 117 :: h0 :: h1 :: h2 :: h3 :: rest)).length = pre.length + rest.length + 6 := by simp; omega
  have e1 : (92 :: 117 :: h0 :: h1 :: h2 :: h3 :: rest : List Int).getD 1 0 = 117 := rfl
  unfold esc
  rw [g, e1, if_pos (by omega), if_neg (by decide), if_pos rfl]
  rw [hexRun, if_pos ⟨by omega, by rw [Nat.add_assoc, g]; exact k0⟩]
  rw [hexRun, if_pos ⟨by omega, by rw [Nat.add_assoc, Nat.add_assoc, g]; exact k1⟩]
  rw [hexRun, if_pos ⟨by omega, by rw [Nat.add_assoc, Nat.add_assoc, Nat.add_assoc, g]; exact k2⟩]
  rw [hexRun, if_pos ⟨by omega, by rw [Nat.add_assoc, Nat.add_assoc, Nat.add_assoc, Nat.add_assoc, g]; exact k3⟩]
  rw [hexRun]
theorem Body.long {h0 h1 h2 h3 : Int} (k0 : isHex h0 = true) (k1 : isHex h1 = true) (k2 : isHex h2 = true) (k3 : isHex h3 = true) : Body [92, 117, h0, h1, h2, h3] := by
  intro pre rest f
  refine ⟨f + 5, by omega, ?_⟩
  have e : (pre ++ (92 :: 117 :: h0 :: h1 :: h2 :: h3 :: rest)).getD pre.length 0 = 92 := by rw [getD_at0]; rfl
  show strF (pre ++ (92 :: 117 :: h0 :: h1 :: h2 :: h3 :: rest)) (f + 5 + 1) _ = strF (pre ++ (92 :: 117 :: h0 :: h1 :: h2 :: h3 :: rest)) (f + 5) (pre.length + 6)
  rw [strF, e, if_pos (by simp), if_neg (by decide), if_pos rfl, esc_long_at k0 k1 k2 k3, if_pos rfl]

theorem str_app {pre q rest : List Int} (hq : Body q) : str (pre ++ (34 :: (q ++ (34 :: rest)))) pre.length = (pre.length + q.length + 2, true) := by
  have a1 : pre ++ (34 :: (q ++ (34 :: rest))) = (pre ++ [34]) ++ (q ++ (34 :: rest)) := by simp
  have hL : ((pre ++ [34]) ++ (q ++ (34 :: rest))).length = pre.length + q.length + rest.length + 2 := by simp; omega
  obtain ⟨f', hf, e⟩ := hq (pre ++ [34]) (34 :: rest) (pre.length + rest.length + 3)
  rw [List.length_append, show ([34] : List Int).length = 1 from rfl] at e
  unfold str
  rw [a1, hL, show pre.length + q.length + rest.length + 2 + 1 = pre.length + rest.length + 3 + q.length by omega, e]
  obtain ⟨f'', rfl⟩ : ∃ f'', f' = f'' + 1 := ⟨f' - 1, by omega⟩
  have a2 : (pre ++ [34]) ++ (q ++ (34 :: rest)) = (pre ++ [34] ++ q) ++ (34 :: rest) := by simp
  have a3 : (pre ++ [34] ++ q).length = pre.length + 1 + q.length := by simp; omega
  have g : ((pre ++ [34]) ++ (q ++ (34 :: rest))).getD (pre.length + 1 + q.length) 0 = 34 := by rw [a2, ← a3, getD_at0]; rfl
  rw [strF, g, if_pos (by omega), if_pos rfl]
  simp; omega

end Go.Proofs.Qxb6600868a.Pl
