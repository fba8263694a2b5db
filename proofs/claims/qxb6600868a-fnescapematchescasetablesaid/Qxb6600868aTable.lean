import Derived.Test.Qxb6600868aZzEsc
import Derived.Test.Qxb6600868aArgs
namespace Go.Proofs.Qxb6600868a
open Go.RowKit Pl

theorem isEsc_any (x : Int) (w : World) : Calls Try.prog 21 #[.int .u8 x] w fun e w' => e = .returned (.bool (isEsc x)) ∧ w' = w := by
  go_enter Try.func21, Try.ntmps21
  go_wp2
  all_goals
    go_ret
    exact ⟨ret_bool (by first | (subst x; rfl) | (rw [Bool.eq_iff_iff]; simp [isEsc]; omega)), rfl⟩

def hexTab : List Int := [48, 49, 50, 51, 52, 53, 54, 55, 56, 57, 97, 98, 99, 100, 101, 102, 65, 66, 67, 68, 69, 70]

theorem hexTab_get (k : Nat) (h : k < (⟨#[48, 49, 50, 51, 52, 53, 54, 55, 56, 57, 97, 98, 99, 100, 101, 102, 65, 66, 67, 68, 69, 70]⟩ : ByteArray).size) : (((⟨#[48, 49, 50, 51, 52, 53, 54, 55, 56, 57, 97, 98, 99, 100, 101, 102, 65, 66, 67, 68, 69, 70]⟩ : ByteArray)[k]'h).toNat : Int) = hexTab.getD k 0 := by
  have hh : ∀ j : Fin 22, (((⟨#[48, 49, 50, 51, 52, 53, 54, 55, 56, 57, 97, 98, 99, 100, 101, 102, 65, 66, 67, 68, 69, 70]⟩ : ByteArray)[j.1]'j.2).toNat : Int) = hexTab.getD j.1 0 := by decide
  exact hh ⟨k, h⟩
theorem hexTab_hit {k : Nat} {x : Int} (hk : k < 22) (h : hexTab.getD k 0 = x) : isHex x = true := by
  have hh : ∀ j : Fin 22, isHex (hexTab.getD j.1 0) = true := by decide
  rw [← h]; exact hh ⟨k, hk⟩
theorem hexTab_none {x : Int} (h : ∀ j, j < 22 → hexTab.getD j 0 ≠ x) : isHex x = false := by
  have h0 := h 0 (by omega); have h1 := h 1 (by omega); have h2 := h 2 (by omega); have h3 := h 3 (by omega); have h4 := h 4 (by omega); have h5 := h 5 (by omega); have h6 := h 6 (by omega); have h7 := h 7 (by omega)
  have h8 := h 8 (by omega); have h9 := h 9 (by omega); have h10 := h 10 (by omega); have h11 := h 11 (by omega); have h12 := h 12 (by omega); have h13 := h 13 (by omega); have h14 := h 14 (by omega); have h15 := h 15 (by omega)
  have h16 := h 16 (by omega); have h17 := h 17 (by omega); have h18 := h 18 (by omega); have h19 := h 19 (by omega); have h20 := h 20 (by omega); have h21 := h 21 (by omega)
  simp [hexTab] at h0 h1 h2 h3 h4 h5 h6 h7 h8 h9 h10 h11 h12 h13 h14 h15 h16 h17 h18 h19 h20 h21
  simp [isHex]; omega

set_option maxHeartbeats 400000 in
theorem escHex_any (x : Int) (w : World) : Calls Try.prog 22 #[.int .u8 x] w fun e w' => e = .returned (.bool (isHex x)) ∧ w' = w := by
  go_enter Try.func22, Try.ntmps22
  go_wp2
  go_loop [3] (fun i => ∃ k : Nat, k ≤ 22 ∧ i = .int .i64 k ∧ Hid (∀ j, j < k → hexTab.getD j 0 ≠ x)) (fun i => 22 - (intOf i).toNat)
  case atStart => exact ⟨0, by omega, rfl, fun j hj => by omega⟩
  case round =>
    obtain ⟨k, hk, rfl, H⟩ := hrel
    by_cases hlt : k < 22
    · go_wp2
      · go_ret
        refine ⟨ret_bool (hexTab_hit hlt ?_).symm, rfl⟩
        rw [← hexTab_get k hlt]
        exact eq_of_beq (by assumption)
      · go_round
        case rel =>
          refine ⟨k + 1, by omega, by go_num, fun j hj => ?_⟩
          by_cases hjk : j < k
          · exact H.out j hjk
          · obtain rfl : j = k := by omega
            rw [← hexTab_get j hlt]
            exact ne_of_beq_false (by assumption)
        case measure => simp [intOf]; omega
    · go_wp2
      go_ret
      exact ⟨ret_bool (hexTab_none fun j hj => H.out j (by omega)).symm, rfl⟩

/-- The place q is past the end or holds no hexadecimal digit. -/
def bad (zs : List Int) (q : Nat) : Bool := !(decide (q < zs.length) && isHex (zs.getD q 0))
/-- The first of the last r of the four places from p on that is bad; 4 where none is. -/
def fb (zs : List Int) (p : Nat) : Nat → Nat
  | 0 => 4
  | r + 1 => if bad zs (p + (3 - r)) = true then 3 - r else fb zs p r

theorem hexRun_fb (zs : List Int) (p r : Nat) : r ≤ 4 → ∀ j, j + 1 = p + (4 - r) → hexRun zs j r = if fb zs p r = 4 then (p + 3, true) else (p + fb zs p r, false) := by
  induction r with
  | zero => intro _ j hj; simp [hexRun, fb]; omega
  | succ r ih =>
    intro hr j hj
    have e : p + (3 - r) = j + 1 := by omega
    rw [hexRun, fb, e]
    by_cases hb : bad zs (j + 1) = true
    · rw [if_pos hb, if_neg (by intro hh; rw [List.getD_eq_getElem?_getD] at hh; simp [bad] at hb; exact hb.elim (fun h => by omega) (fun h => by rw [h] at hh; simp at hh)), if_neg (by omega), e]
    · rw [if_neg hb, if_pos (by simpa [bad] using hb)]
      exact ih (by omega) (j + 1) (by omega)
theorem fb_le (zs : List Int) (p r : Nat) : fb zs p r ≤ 4 := by
  induction r with
  | zero => simp [fb]
  | succ r ih => rw [fb]; split <;> omega

end Go.Proofs.Qxb6600868a
