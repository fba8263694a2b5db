/-
  The number grammar over lists: what the number step answers, and the automaton run greedily.
-/
import Derived.Test.Qxb6600868aPlainNum
namespace Go.Proofs.Qxb6600868a.Pl

/-- The list begins with b. -/
def hd : List Int → Int → Bool
  | [], _ => false
  | x :: _, b => x == b
def plus (k : Nat) (p : Nat × Bool) : Nat × Bool := (k + p.1, p.2)
theorem plus_plus (a b : Nat) (p : Nat × Bool) : plus a (plus b p) = plus (a + b) p := by simp [plus, Nat.add_assoc]
theorem plus_zero (p : Nat × Bool) : plus 0 p = p := by simp [plus]

def expDigL (l : List Int) : Nat × Bool := if dg l = 0 then (0, false) else (dg l, true)
def expTailL (l : List Int) : Nat × Bool := if (hd l 43 || hd l 45) = true then plus 1 (expDigL (l.drop 1)) else expDigL l
def numExpL (l : List Int) : Nat × Bool := if (hd l 101 || hd l 69) = true then plus 1 (expTailL (l.drop 1)) else (0, true)
def fracDigL (l : List Int) : Nat × Bool := if dg l = 0 then (0, false) else plus (dg l) (numExpL (l.drop (dg l)))
def numFracL (l : List Int) : Nat × Bool := if hd l 46 = true then plus 1 (fracDigL (l.drop 1)) else numExpL l
def numIntL (l : List Int) : Nat × Bool := if hd l 48 = true then plus 1 (numFracL (l.drop 1)) else if dg l = 0 then (0, false) else plus (dg l) (numFracL (l.drop (dg l)))
def numL (l : List Int) : Nat × Bool := if hd l 45 = true then plus 1 (numIntL (l.drop 1)) else numIntL l

theorem atB_drop (zs : List Int) (i : Nat) (b : Int) : atB zs i b = hd (zs.drop i) b := by
  by_cases h : i < zs.length
  · rw [drop_cons h, hd, atB, Bool.eq_iff_iff]; simp [h]
  · rw [List.drop_eq_nil_of_le (by omega), hd, atB]; simp; omega
theorem drop_one (zs : List Int) (i : Nat) : zs.drop (i + 1) = (zs.drop i).drop 1 := by simp
theorem drop_two (zs : List Int) (i : Nat) : zs.drop (i + 2) = ((zs.drop i).drop 1).drop 1 := by simp
theorem drop_more (zs : List Int) (i d : Nat) : zs.drop (i + d) = (zs.drop i).drop d := by simp

theorem numExp_eq (zs : List Int) (i : Nat) : numExp zs i = plus i (numExpL (zs.drop i)) := by
  unfold numExp numExpL expTailL expDigL dgAt
  simp only [atB_drop, drop_one zs i, drop_two zs i]
  split
  · split
    · split <;> simp [plus] <;> omega
    · split <;> simp [plus] <;> omega
  · simp [plus]
theorem numFrac_eq (zs : List Int) (i : Nat) : numFrac zs i = plus i (numFracL (zs.drop i)) := by
  unfold numFrac numFracL fracDigL dgAt
  rw [atB_drop]
  split
  · rw [drop_one]
    split
    · simp [plus]
    · have e : ∀ d, zs.drop (i + 1 + d) = ((zs.drop i).drop 1).drop d := fun d => by rw [drop_more, drop_one]
      rw [numExp_eq, plus_plus, plus_plus, e, Nat.add_assoc]
  · rw [numExp_eq]
theorem numInt_eq (zs : List Int) (i : Nat) : numInt zs i = plus i (numIntL (zs.drop i)) := by
  unfold numInt numIntL dgAt
  rw [atB_drop]
  split
  · rw [numFrac_eq, plus_plus, drop_one]
  · split
    · simp [plus]
    · rw [numFrac_eq, plus_plus, drop_more]
theorem num_eq (zs : List Int) (i : Nat) : num zs i = plus i (numL (zs.drop i)) := by
  unfold num numL
  rw [atB_drop]
  split
  · rw [numInt_eq, plus_plus, drop_one]
  · rw [numInt_eq]

def stp (s : Nat) (x : Int) : Option Nat :=
  match s with
  | 0 => if x = 45 then some 1 else if x = 48 then some 2 else if isDig x = true then some 3 else none
  | 1 => if x = 48 then some 2 else if isDig x = true then some 3 else none
  | 2 => if x = 46 then some 4 else if x = 101 ∨ x = 69 then some 6 else none
  | 3 => if isDig x = true then some 3 else if x = 46 then some 4 else if x = 101 ∨ x = 69 then some 6 else none
  | 4 => if isDig x = true then some 5 else none
  | 5 => if isDig x = true then some 5 else if x = 101 ∨ x = 69 then some 6 else none
  | 6 => if x = 43 ∨ x = 45 then some 7 else if isDig x = true then some 8 else none
  | 7 => if isDig x = true then some 8 else none
  | 8 => if isDig x = true then some 8 else none
  | _ => none
def toI : Option Nat → Int | none => -1 | some k => k

theorem stp_le {s t : Nat} {x : Int} (h : stp s x = some t) : t ≤ 8 := by
  unfold stp at h
  split at h
  all_goals (repeat' split at h)
  all_goals (first | (simp at h; omega) | simp at h)

def aut : Nat → List Int → Nat × Nat
  | s, [] => (0, s)
  | s, x :: l => match stp s x with
    | none => (0, s)
    | some t => ((aut t l).1 + 1, (aut t l).2)
def acc (s : Nat) : Bool := decide (s = 2 ∨ s = 3 ∨ s = 5 ∨ s = 8)
/-- What the automaton answers from state s: how far it comes, whether it accepts there. -/
def R (s : Nat) (l : List Int) : Nat × Bool := ((aut s l).1, acc (aut s l).2)

theorem R_nil (s : Nat) : R s [] = (0, acc s) := rfl
theorem R_none {s : Nat} {x : Int} {l : List Int} (h : stp s x = none) : R s (x :: l) = (0, acc s) := by simp [R, aut, h]
theorem R_some {s t : Nat} {x : Int} {l : List Int} (h : stp s x = some t) : R s (x :: l) = plus 1 (R t l) := by simp [R, aut, h, plus, Nat.add_comm]

theorem dig_not {x : Int} (h : isDig x = true) : ¬ x = 45 ∧ ¬ x = 46 ∧ ¬ x = 101 ∧ ¬ x = 69 ∧ ¬ x = 43 := by simp [isDig] at h; omega
theorem dg_yes {x : Int} {l : List Int} (h : isDig x = true) : dg (x :: l) = dg l + 1 := by rw [dg, if_pos h]
theorem dg_no {x : Int} {l : List Int} (h : ¬ isDig x = true) : dg (x :: l) = 0 := by rw [dg, if_neg h]

theorem R8 (l : List Int) : R 8 l = (dg l, true) := by
  induction l with
  | nil => rfl
  | cons x l ih =>
    by_cases h : isDig x = true
    · rw [R_some (t := 8) (by simp [stp, h]), ih, dg_yes h]; simp [plus, Nat.add_comm]
    · rw [R_none (by simp [stp, h]), dg_no h]; rfl
theorem R7 (l : List Int) : R 7 l = expDigL l := by
  unfold expDigL
  cases l with
  | nil => rfl
  | cons x l =>
    by_cases h : isDig x = true
    · rw [R_some (t := 8) (by simp [stp, h]), R8, dg_yes h]; simp [plus, Nat.add_comm]
    · rw [R_none (by simp [stp, h]), dg_no h]; rfl
theorem R6 (l : List Int) : R 6 l = expTailL l := by
  unfold expTailL
  cases l with
  | nil => rfl
  | cons x l =>
    by_cases h : x = 43 ∨ x = 45
    · rw [R_some (t := 7) (by simp [stp, h]), R7, if_pos (by simpa [hd] using h)]; rfl
    · rw [if_neg (by simpa [hd] using h)]
      unfold expDigL
      by_cases h2 : isDig x = true
      · rw [R_some (t := 8) (by simp [stp, h, h2]), R8, dg_yes h2]; simp [plus, Nat.add_comm]
      · rw [R_none (by simp [stp, h, h2]), dg_no h2]; rfl
theorem R5 (l : List Int) : R 5 l = plus (dg l) (numExpL (l.drop (dg l))) := by
  induction l with
  | nil => rfl
  | cons x l ih =>
    by_cases h : isDig x = true
    · rw [R_some (t := 5) (by simp [stp, h]), ih, dg_yes h, plus_plus, Nat.add_comm 1]; rfl
    · rw [dg_no h, plus_zero, List.drop_zero]
      unfold numExpL
      by_cases h2 : x = 101 ∨ x = 69
      · rw [R_some (t := 6) (by simp [stp, h, h2]), R6, if_pos (by simpa [hd] using h2)]; rfl
      · rw [R_none (by simp [stp, h, h2]), if_neg (by simpa [hd] using h2)]; rfl
theorem R4 (l : List Int) : R 4 l = fracDigL l := by
  unfold fracDigL
  cases l with
  | nil => rfl
  | cons x l =>
    by_cases h : isDig x = true
    · rw [R_some (t := 5) (by simp [stp, h]), R5, dg_yes h, plus_plus, Nat.add_comm 1, if_neg (by omega)]; rfl
    · rw [R_none (by simp [stp, h]), dg_no h]; rfl
theorem R3 (l : List Int) : R 3 l = plus (dg l) (numFracL (l.drop (dg l))) := by
  induction l with
  | nil => rfl
  | cons x l ih =>
    by_cases h : isDig x = true
    · rw [R_some (t := 3) (by simp [stp, h]), ih, dg_yes h, plus_plus, Nat.add_comm 1]; rfl
    · rw [dg_no h, plus_zero, List.drop_zero]
      unfold numFracL
      by_cases h2 : x = 46
      · rw [R_some (t := 4) (by simp [stp, h2, isDig]), R4, if_pos (by simpa [hd] using h2)]; rfl
      · rw [if_neg (by simpa [hd] using h2)]
        unfold numExpL
        by_cases h3 : x = 101 ∨ x = 69
        · rw [R_some (t := 6) (by simp [stp, h, h2, h3]), R6, if_pos (by simpa [hd] using h3)]; rfl
        · rw [R_none (by simp [stp, h, h2, h3]), if_neg (by simpa [hd] using h3)]; rfl
theorem R2 (l : List Int) : R 2 l = numFracL l := by
  unfold numFracL
  cases l with
  | nil => rfl
  | cons x l =>
    by_cases h2 : x = 46
    · rw [R_some (t := 4) (by simp [stp, h2]), R4, if_pos (by simpa [hd] using h2)]; rfl
    · rw [if_neg (by simpa [hd] using h2)]
      unfold numExpL
      by_cases h3 : x = 101 ∨ x = 69
      · rw [R_some (t := 6) (by simp [stp, h2, h3]), R6, if_pos (by simpa [hd] using h3)]; rfl
      · rw [R_none (by simp [stp, h2, h3]), if_neg (by simpa [hd] using h3)]; rfl
theorem R1 (l : List Int) : R 1 l = numIntL l := by
  unfold numIntL
  cases l with
  | nil => rfl
  | cons x l =>
    by_cases h2 : x = 48
    · rw [R_some (t := 2) (by simp [stp, h2]), R2, if_pos (by simpa [hd] using h2)]; rfl
    · rw [if_neg (by simpa [hd] using h2)]
      by_cases h : isDig x = true
      · rw [R_some (t := 3) (by simp [stp, h2, h]), R3, dg_yes h, plus_plus, Nat.add_comm 1, if_neg (by omega)]; rfl
      · rw [R_none (by simp [stp, h2, h]), dg_no h]; rfl
theorem R0 (l : List Int) : R 0 l = numL l := by
  unfold numL
  cases l with
  | nil => rfl
  | cons x l =>
    by_cases h2 : x = 45
    · rw [R_some (t := 1) (by simp [stp, h2]), R1, if_pos (by simpa [hd] using h2)]; rfl
    · rw [if_neg (by simpa [hd] using h2), ← R1]
      by_cases h3 : x = 48
      · rw [R_some (t := 2) (by simp [stp, h3]), R_some (t := 2) (by simp [stp, h3])]
      · by_cases h : isDig x = true
        · rw [R_some (t := 3) (by simp [stp, h2, h3, h]), R_some (t := 3) (by simp [stp, h3, h])]
        · rw [R_none (by simp [stp, h2, h3, h]), R_none (by simp [stp, h3, h])]; rfl

theorem num_aut (zs : List Int) (i : Nat) : num zs i = (i + (aut 0 (zs.drop i)).1, acc (aut 0 (zs.drop i)).2) := by
  rw [num_eq, ← R0]; rfl

theorem aut_step {zs : List Int} {s t p : Nat} (hp : p < zs.length) (h : stp s (zs.getD p 0) = some t) : aut s (zs.drop p) = ((aut t (zs.drop (p + 1))).1 + 1, (aut t (zs.drop (p + 1))).2) := by
  rw [drop_cons hp, aut, h]
theorem aut_stop {zs : List Int} {s p : Nat} (h : p < zs.length → stp s (zs.getD p 0) = none) : aut s (zs.drop p) = (0, s) := by
  by_cases hp : p < zs.length
  · rw [drop_cons hp, aut, h hp]
  · rw [List.drop_eq_nil_of_le (by omega)]; rfl

end Go.Proofs.Qxb6600868a.Pl
