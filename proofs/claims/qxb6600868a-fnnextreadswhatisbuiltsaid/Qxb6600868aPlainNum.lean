/-
  The plain functions of the number step: digits, number.
-/
import Derived.Test.Qxb6600868aPlain
namespace Go.Proofs.Qxb6600868a.Pl

/-- How many digits a list begins with. -/
def dg : List Int → Nat
  | [] => 0
  | x :: l => if isDig x = true then dg l + 1 else 0
def dgAt (zs : List Int) (i : Nat) : Nat := dg (zs.drop i)

theorem drop_cons {zs : List Int} {j : Nat} (h : j < zs.length) : zs.drop j = zs.getD j 0 :: zs.drop (j + 1) := by
  rw [List.drop_eq_getElem_cons h]; simp [List.getD_eq_getElem?_getD, h]

theorem dgAt_step {zs : List Int} {j : Nat} (h : j < zs.length) (hd : isDig (zs.getD j 0) = true) : dgAt zs j = dgAt zs (j + 1) + 1 := by
  unfold dgAt; rw [drop_cons h, dg, if_pos hd]
theorem dgAt_stop {zs : List Int} {j : Nat} (h : j < zs.length → isDig (zs.getD j 0) = false) : dgAt zs j = 0 := by
  unfold dgAt
  by_cases hj : j < zs.length
  · rw [drop_cons hj, dg, if_neg (by rw [h hj]; simp)]
  · rw [List.drop_eq_nil_of_le (by omega)]; rfl
theorem dg_le (l : List Int) : dg l ≤ l.length := by
  induction l with
  | nil => simp [dg]
  | cons x l ih => rw [dg]; split <;> simp <;> omega
theorem dgAt_le (zs : List Int) (i : Nat) (h : i ≤ zs.length) : i + dgAt zs i ≤ zs.length := by
  have := dg_le (zs.drop i); simp at this; unfold dgAt; omega

def numExp (zs : List Int) (i : Nat) : Nat × Bool :=
  if (atB zs i 101 || atB zs i 69) = true then
    if (atB zs (i + 1) 43 || atB zs (i + 1) 45) = true then
      if dgAt zs (i + 2) = 0 then (i + 2, false) else (i + 2 + dgAt zs (i + 2), true)
    else
      if dgAt zs (i + 1) = 0 then (i + 1, false) else (i + 1 + dgAt zs (i + 1), true)
  else (i, true)
def numFrac (zs : List Int) (i : Nat) : Nat × Bool :=
  if atB zs i 46 = true then
    if dgAt zs (i + 1) = 0 then (i + 1, false) else numExp zs (i + 1 + dgAt zs (i + 1))
  else numExp zs i
def numInt (zs : List Int) (i : Nat) : Nat × Bool :=
  if atB zs i 48 = true then numFrac zs (i + 1)
  else if dgAt zs i = 0 then (i, false) else numFrac zs (i + dgAt zs i)
def num (zs : List Int) (i : Nat) : Nat × Bool := if atB zs i 45 = true then numInt zs (i + 1) else numInt zs i

theorem atB_lt {zs : List Int} {i : Nat} {b : Int} (h : atB zs i b = true) : i < zs.length := by simp [atB] at h; exact h.1

end Go.Proofs.Qxb6600868a.Pl
