/-
  The plain functions of the steps between values: white space, string, key, next.
-/
import Derived.Test.Qxb6600868aPlainNum
namespace Go.Proofs.Qxb6600868a.Pl

/-- How many white-space bytes a list begins with. -/
def sps : List Int → Nat
  | [] => 0
  | x :: l => if isSp x = true then sps l + 1 else 0
def spAt (zs : List Int) (i : Nat) : Nat := sps (zs.drop i)
/-- The place behind the white space at i. -/
def skip (zs : List Int) (i : Nat) : Nat := i + spAt zs i
def skipSp (zs : List Int) (i : Nat) (sp : Bool) : Bool := sp || decide (0 < spAt zs i)

theorem spAt_step {zs : List Int} {j : Nat} (h : j < zs.length) (hd : isSp (zs.getD j 0) = true) : spAt zs j = spAt zs (j + 1) + 1 := by
  unfold spAt; rw [drop_cons h, sps, if_pos hd]
theorem spAt_stop {zs : List Int} {j : Nat} (h : j < zs.length → isSp (zs.getD j 0) = false) : spAt zs j = 0 := by
  unfold spAt
  by_cases hj : j < zs.length
  · rw [drop_cons hj, sps, if_neg (by rw [h hj]; simp)]
  · rw [List.drop_eq_nil_of_le (by omega)]; rfl
theorem sps_le (l : List Int) : sps l ≤ l.length := by
  induction l with
  | nil => simp [sps]
  | cons x l ih => rw [sps]; split <;> simp <;> omega
theorem skip_le (zs : List Int) (i : Nat) (h : i ≤ zs.length) : skip zs i ≤ zs.length := by
  have := sps_le (zs.drop i); simp at this; unfold skip spAt; omega
theorem skip_ge (zs : List Int) (i : Nat) : i ≤ skip zs i := by unfold skip; omega

/-- The string step from the loop's head at place j, with fuel. -/
def strF (zs : List Int) : Nat → Nat → Nat × Bool
  | 0, j => (j, false)
  | f + 1, j =>
    if j < zs.length then
      if zs.getD j 0 = 34 then (j + 1, true)
      else if zs.getD j 0 = 92 then
        if (esc zs j).2 = true then strF zs f ((esc zs j).1 + 1) else ((esc zs j).1, false)
      else if zs.getD j 0 < 32 then (j, false)
      else strF zs f (j + 1)
    else (j, false)
def str (zs : List Int) (i : Nat) : Nat × Bool := strF zs (zs.length + 1) (i + 1)

theorem strF_le (zs : List Int) (f : Nat) : ∀ j, j ≤ zs.length → j ≤ (strF zs f j).1 ∧ (strF zs f j).1 ≤ zs.length := by
  induction f with
  | zero => intro j hj; simp [strF]; exact hj
  | succ f ih =>
    intro j hj
    rw [strF]
    split
    · rename_i h
      split
      · simp; omega
      · split
        · have h5 := esc_le zs j h
          split
          · rename_i h6
            have h7 := esc_ok zs j h6
            have := ih ((esc zs j).1 + 1) (by omega)
            omega
          · simp; omega
        · split
          · simp; omega
          · have := ih (j + 1) (by omega); omega
    · simp; omega

/-- The key step: the place, the answer, the spaced flag. -/
def keyF (zs : List Int) (i : Nat) (sp : Bool) : Nat × Bool × Bool :=
  if atB zs i 34 = true then
    if (str zs i).2 = true then
      if atB zs (skip zs (str zs i).1) 58 = true then
        (skip zs (skip zs (str zs i).1 + 1), true, skipSp zs (skip zs (str zs i).1 + 1) (skipSp zs (str zs i).1 sp))
      else (skip zs (str zs i).1, false, skipSp zs (str zs i).1 sp)
    else ((str zs i).1, false, sp)
  else (i, false, sp)

theorem str_le (zs : List Int) (i : Nat) (h : i < zs.length) : i + 1 ≤ (str zs i).1 ∧ (str zs i).1 ≤ zs.length := strF_le zs _ (i + 1) (by omega)
theorem atB_lt' {zs : List Int} {i : Nat} {b : Int} (h : atB zs i b = true) : i < zs.length := by simp [atB] at h; exact h.1
theorem keyF_le (zs : List Int) (i : Nat) (sp : Bool) (hi : i ≤ zs.length) : i ≤ (keyF zs i sp).1 ∧ (keyF zs i sp).1 ≤ zs.length := by
  unfold keyF
  split
  · rename_i h
    have h1 := str_le zs i (atB_lt' h)
    have h2 := skip_le zs (str zs i).1 h1.2
    have h3 := skip_ge zs (str zs i).1
    split
    · split
      · rename_i h4
        have h5 := atB_lt' h4
        have h6 := skip_le zs (skip zs (str zs i).1 + 1) (by omega)
        have h7 := skip_ge zs (skip zs (str zs i).1 + 1)
        simp only; omega
      · simp only; omega
    · simp only; omega
  · simp only; omega

/-- What next leaves: how many stay open, the place, the answer, the spaced flag. -/
structure Nx where
  left : Nat
  at_ : Nat
  ok : Bool
  sp : Bool

/-- The next step, with the first m of op open. -/
def nextF (zs op : List Int) : Nat → Nat → Bool → Nx
  | 0, i, sp => ⟨0, skip zs i, true, skipSp zs i sp⟩
  | m + 1, i, sp =>
    if skip zs i < zs.length then
      if atB zs (skip zs i) 44 = true then
        if op.getD m 0 = 91 then ⟨m + 1, skip zs (skip zs i + 1), true, skipSp zs (skip zs i + 1) (skipSp zs i sp)⟩
        else ⟨m + 1, (keyF zs (skip zs (skip zs i + 1)) (skipSp zs (skip zs i + 1) (skipSp zs i sp))).1, (keyF zs (skip zs (skip zs i + 1)) (skipSp zs (skip zs i + 1) (skipSp zs i sp))).2.1, (keyF zs (skip zs (skip zs i + 1)) (skipSp zs (skip zs i + 1) (skipSp zs i sp))).2.2⟩
      else if atB zs (skip zs i) (closer (op.getD m 0)) = true then nextF zs op m (skip zs i + 1) (skipSp zs i sp)
      else ⟨m + 1, skip zs i, false, skipSp zs i sp⟩
    else ⟨m + 1, skip zs i, false, skipSp zs i sp⟩

end Go.Proofs.Qxb6600868a.Pl
