/-
  What next keeps, whatever the text.
-/
import Derived.Test.Qxb6600868aPlainNext
namespace Go.Proofs.Qxb6600868a.Pl

theorem sps_end (l : List Int) : sps l < l.length → isSp (l.getD (sps l) 0) = false := by
  induction l with
  | nil => simp
  | cons x l ih =>
    intro h
    rw [sps] at h ⊢
    by_cases hx : isSp x = true
    · rw [if_pos hx] at h ⊢
      simpa using ih (by simpa using h)
    · rw [if_neg hx] at h ⊢
      simpa using hx
theorem skip_end (zs : List Int) (i : Nat) (h : skip zs i < zs.length) : isSp (zs.getD (skip zs i) 0) = false := by
  unfold skip spAt at h ⊢
  have := sps_end (zs.drop i) (by simp; omega)
  rw [List.getD_eq_getElem?_getD, List.getElem?_drop, ← List.getD_eq_getElem?_getD] at this
  exact this
theorem skip_sp {zs : List Int} {i : Nat} {sp : Bool} (h : i < zs.length) (hx : isSp (zs.getD i 0) = true) : skipSp zs i sp = true := by
  unfold skipSp; rw [spAt_step h hx]; simp
theorem skipSp_keep {zs : List Int} {i : Nat} {sp : Bool} (h : sp = true) : skipSp zs i sp = true := by unfold skipSp; rw [h]; rfl
theorem keyF_sp {zs : List Int} {i : Nat} {sp : Bool} (h : sp = true) : (keyF zs i sp).2.2 = true := by
  unfold keyF
  split
  · split
    · split
      · exact skipSp_keep (skipSp_keep h)
      · exact skipSp_keep h
    · exact h
  · exact h

theorem nextF_sp (zs op : List Int) (m : Nat) : ∀ i sp, sp = true → (nextF zs op m i sp).sp = true := by
  induction m with
  | zero => intro i sp h; rw [nextF]; exact skipSp_keep h
  | succ m ih =>
    intro i sp h
    rw [nextF]
    split
    · split
      · split
        · exact skipSp_keep (skipSp_keep h)
        · exact keyF_sp (skipSp_keep (skipSp_keep h))
      · split
        · exact ih _ _ (skipSp_keep h)
        · exact skipSp_keep h
    · exact skipSp_keep h

structure Keeps (zs : List Int) (m i : Nat) (p : Nx) : Prop where
  left : p.left ≤ m
  ge : i ≤ p.at_
  le : p.at_ ≤ zs.length
  ended : p.ok = true → p.left = 0 → p.at_ < zs.length → isSp (zs.getD p.at_ 0) = false
  moved : p.ok = true → 0 < p.left → i < p.at_

theorem nextF_keeps (zs op : List Int) (m : Nat) : ∀ i sp, i ≤ zs.length → Keeps zs m i (nextF zs op m i sp) := by
  induction m with
  | zero =>
    intro i sp hi
    rw [nextF]
    exact ⟨Nat.le_refl _, skip_ge zs i, skip_le zs i hi, fun _ _ h => skip_end zs i h, fun _ h => by simp at h⟩
  | succ m ih =>
    intro i sp hi
    have h1 := skip_ge zs i
    have h2 := skip_le zs i hi
    rw [nextF]
    split
    · rename_i h3
      have h4 := skip_ge zs (skip zs i + 1)
      have h5 := skip_le zs (skip zs i + 1) (by omega)
      split
      · split
        · exact ⟨Nat.le_refl _, by simp only; omega, h5, fun _ h => by simp at h, fun _ _ => by simp only; omega⟩
        · have h6 := keyF_le zs (skip zs (skip zs i + 1)) (skipSp zs (skip zs i + 1) (skipSp zs i sp)) h5
          exact ⟨Nat.le_refl _, by simp only; omega, h6.2, fun _ h => by simp at h, fun _ _ => by simp only; omega⟩
      · split
        · have h7 := ih (skip zs i + 1) (skipSp zs i sp) (by omega)
          exact ⟨by have := h7.left; omega, by have := h7.ge; omega, h7.le, h7.ended, fun ho hl => by have := h7.moved ho hl; omega⟩
        · exact ⟨Nat.le_refl _, h1, h2, fun h => by simp at h, fun h => by simp at h⟩
    · exact ⟨Nat.le_refl _, h1, h2, fun h => by simp at h, fun h => by simp at h⟩

theorem nextF_spaced (zs op : List Int) (m i : Nat) (sp : Bool) (h : i < zs.length) (hx : isSp (zs.getD i 0) = true) : (nextF zs op m i sp).sp = true := by
  have hk : skipSp zs i sp = true := skip_sp h hx
  cases m with
  | zero => rw [nextF]; exact hk
  | succ m =>
    rw [nextF]
    split
    · split
      · split
        · exact skipSp_keep hk
        · exact keyF_sp (skipSp_keep hk)
      · split
        · exact nextF_sp zs op m _ _ hk
        · exact hk
    · exact hk

end Go.Proofs.Qxb6600868a.Pl
