/-
  The plain functions that the Go functions of this seat compute, over lists of numbers (bytes). No Go in sight.
-/
namespace Go.Proofs.Qxb6600868a.Pl

def isDig (x : Int) : Bool := decide (48 ≤ x ∧ x ≤ 57)
def isHex (x : Int) : Bool := decide ((48 ≤ x ∧ x ≤ 57) ∨ (97 ≤ x ∧ x ≤ 102) ∨ (65 ≤ x ∧ x ≤ 70))
def isSp (x : Int) : Bool := decide (x = 32 ∨ x = 9 ∨ x = 13 ∨ x = 10)
def isEsc (x : Int) : Bool := decide (x = 34 ∨ x = 92 ∨ x = 47 ∨ x = 98 ∨ x = 102 ∨ x = 110 ∨ x = 114 ∨ x = 116)
def closer (x : Int) : Int := if x = 123 then 125 else 93

/-- The byte at place i is b. -/
def atB (zs : List Int) (i : Nat) (b : Int) : Bool := decide (i < zs.length ∧ zs.getD i 0 = b)

/-! ### escape -/

/-- From place j, n rounds to come: each moves on by one and asks for a hexadecimal digit there. -/
def hexRun (zs : List Int) : Nat → Nat → Nat × Bool
  | j, 0 => (j, true)
  | j, n + 1 => if j + 1 < zs.length ∧ isHex (zs.getD (j + 1) 0) = true then hexRun zs (j + 1) n else (j + 1, false)

def esc (zs : List Int) (i : Nat) : Nat × Bool :=
  if i + 1 < zs.length then
    if isEsc (zs.getD (i + 1) 0) = true then (i + 1, true)
    else if zs.getD (i + 1) 0 = 117 then hexRun zs (i + 1) 4
    else (i + 1, false)
  else (i + 1, false)

theorem hexRun_le (zs : List Int) (n : Nat) : ∀ j, j < zs.length → j ≤ (hexRun zs j n).1 ∧ (hexRun zs j n).1 ≤ zs.length ∧ (hexRun zs j n).1 ≤ j + n ∧ ((hexRun zs j n).2 = true → (hexRun zs j n).1 = j + n ∧ j + n < zs.length) := by
  induction n with
  | zero => intro j hj; simp [hexRun]; omega
  | succ n ih =>
    intro j hj
    rw [hexRun]
    split
    · rename_i h
      have := ih (j + 1) h.1
      refine ⟨by omega, by omega, by omega, fun h2 => ?_⟩
      have := this.2.2.2 h2
      omega
    · simp; omega

theorem esc_le (zs : List Int) (i : Nat) (hi : i < zs.length) : i + 1 ≤ (esc zs i).1 ∧ (esc zs i).1 ≤ zs.length ∧ (esc zs i).1 ≤ i + 5 := by
  unfold esc
  split
  · split
    · simp; omega
    · split
      · have := hexRun_le zs 4 (i + 1) (by omega); omega
      · simp; omega
  · simp; omega

theorem esc_ok (zs : List Int) (i : Nat) (h : (esc zs i).2 = true) :
    (esc zs i).1 < zs.length ∧ ((esc zs i).1 = i + 1 ∨ (esc zs i).1 = i + 5) ∧ ((esc zs i).1 = i + 5 ↔ zs.getD (i + 1) 0 = 117) := by
  unfold esc at h ⊢
  split at h
  · rename_i h1
    rw [if_pos h1]
    split at h
    · rename_i h2
      rw [if_pos h2]
      refine ⟨h1, .inl rfl, ?_⟩
      simp only
      constructor
      · omega
      · intro h3; rw [h3] at h2; simp [isEsc] at h2
    · rename_i h2
      rw [if_neg h2]
      split at h
      · rename_i h3
        rw [if_pos h3]
        have := (hexRun_le zs 4 (i + 1) h1).2.2.2 h
        exact ⟨by omega, by omega, by constructor <;> intro <;> first | exact h3 | omega⟩
      · simp at h
  · simp at h

theorem hexRun_take (zs : List Int) (m : Nat) (hm : m ≤ zs.length) (n : Nat) : ∀ j, j + n < m → (hexRun zs j n).2 = true → hexRun (zs.take m) j n = hexRun zs j n := by
  induction n with
  | zero => intro j _ _; simp [hexRun]
  | succ n ih =>
    intro j hj h
    rw [hexRun] at h ⊢
    split at h
    · rename_i h1
      have e : (zs.take m).getD (j + 1) 0 = zs.getD (j + 1) 0 := by
        simp only [List.getD_eq_getElem?_getD, List.getElem?_take]; rw [if_pos (by omega)]
      have hl : (zs.take m).length = m := by simp; omega
      rw [if_pos (by rw [e, hl]; exact ⟨by omega, h1.2⟩), ih (j + 1) (by omega) h]
      conv => rhs; rw [hexRun, if_pos h1]
    · simp at h

theorem esc_take (zs : List Int) (i : Nat) (h : (esc zs i).2 = true) : esc (zs.take ((esc zs i).1 + 1)) i = esc zs i := by
  have h1 := esc_ok zs i h
  have hl : (zs.take ((esc zs i).1 + 1)).length = (esc zs i).1 + 1 := by simp; omega
  have e : (zs.take ((esc zs i).1 + 1)).getD (i + 1) 0 = zs.getD (i + 1) 0 := by
    simp only [List.getD_eq_getElem?_getD, List.getElem?_take]; rw [if_pos (by omega)]
  generalize hm : (esc zs i).1 + 1 = m at *
  have hx : i + 1 < zs.length := by omega
  unfold esc at h ⊢
  rw [hl, e]
  rw [if_pos (by omega), if_pos hx]
  rw [if_pos hx] at h
  split
  · rfl
  · rename_i h2
    rw [if_neg h2] at h
    split
    · rename_i h3
      rw [if_pos h3] at h
      exact hexRun_take zs m (by omega) 4 (i + 1) (by have := h1.2.2.2 h3; omega) h
    · rfl

end Go.Proofs.Qxb6600868a.Pl
