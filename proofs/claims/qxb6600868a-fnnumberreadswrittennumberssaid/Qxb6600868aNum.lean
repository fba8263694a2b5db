import Derived.Test.Qxb6600868aZzEsc
import Derived.Test.Qxb6600868aPlainNum
namespace Go.Proofs.Qxb6600868a
open Go.RowKit Pl

set_option maxRecDepth 100000 in
set_option maxHeartbeats 1000000 in
theorem digits_any {w : World} {c : Nat} {a : Option Addr} {g n cap : Nat} {zs : List Int} {i : Nat} {sp : Bool} (h : St w c a g n cap zs i sp) :
    Calls Try.prog 43 #[.pointer (some ⟨c, 0, none⟩)] w fun e w' => e = .returned (.int .i64 (dgAt zs i)) ∧ St w' c a g n cap zs (i + dgAt zs i) sp ∧ Below c w w' := by
  have h1 := h.chk.c1
  have hn := h.txt.small
  have hl := h.txt.len
  have hi := h.le
  have HI : Hid (i ≤ n) := h.le
  have HL : Hid (zs.length = n) := hl
  clear hl
  go_enter Try.func43, Try.ntmps43
  go_wp2
  clear h1
  go_loopg [] (n - i) (fun k wr => ∃ j : Nat, k = n - j ∧ i ≤ j ∧ Hid (dgAt zs i = (j - i) + dgAt zs j) ∧ St wr c a g n cap zs j sp ∧ Below c w wr)
  case atStart => exact ⟨i, rfl, Nat.le_refl _, by unfold Hid; omega, h, Below.refl _ _⟩
  case round =>
    obtain ⟨j, hk, hij, HD, hs, hb⟩ := hrel
    have h0 := hs.chk.c0
    have h1 := hs.chk.c1
    have hj := hs.le
    by_cases hlt : j < n
    · have hx := hs.txt.cell j hlt
      obtain rfl := hs.txt.addr (by omega)
      obtain ⟨x, hX⟩ : ∃ x, x = zs.getD j 0 := ⟨_, rfl⟩
      rw [← hX] at hx
      have HX : Hid (x = zs.getD j 0) := hX
      have HK : Hid (gk = n - j) := hk
      have hlt' : (j : Int) < (n : Int) := by omega
      clear hX hk
      by_cases hd : 48 ≤ x
      · by_cases hd' : x ≤ 57
        · have HE : Hid (isDig x = true) := by simp [Hid, isDig, hd, hd']
          have hf := hs.chk.free 1
          go_wp2
          go_quiet (fail)
          go_wp2
          obtain ⟨hs2, hb2⟩ := (hs.drewN nq).step hlt
          go_roundg (n - (j + 1))
          case measure => have := HK.out; omega
          case rel =>
            refine ⟨j + 1, rfl, by omega, ?_, hs2, (hb.trans (below_drewN _)).trans hb2⟩
            have e := dgAt_step (zs := zs) (j := j) (by have := HL.out; omega) (by rw [← HX.out]; exact HE.out)
            have := HD.out
            unfold Hid; omega
        · have hd2 : decide (x ≤ 57) = false := by simpa using hd'
          have HE : Hid (isDig x = false) := by simp [Hid, isDig]; omega
          go_wp2
          go_quiet (fail)
          go_wp2
          go_ret
          have e := dgAt_stop (zs := zs) (j := j) (fun _ => by rw [← HX.out]; exact HE.out)
          have e2 : dgAt zs i = j - i := by have := HD.out; omega
          refine ⟨ret_int (by rw [e2]; omega), ?_, hb.trans (below_drewN _)⟩
          rw [e2, show i + (j - i) = j by omega]
          exact hs.drewN _
      · have hd2 : decide (48 ≤ x) = false := by simpa using hd
        have HE : Hid (isDig x = false) := by simp [Hid, isDig]; omega
        go_wp2
        go_quiet (fail)
        go_wp2
        go_ret
        have e := dgAt_stop (zs := zs) (j := j) (fun _ => by rw [← HX.out]; exact HE.out)
        have e2 : dgAt zs i = j - i := by have := HD.out; omega
        refine ⟨ret_int (by rw [e2]; omega), ?_, hb.trans (below_drewN _)⟩
        rw [e2, show i + (j - i) = j by omega]
        exact hs.drewN _
    · have hd2 : decide ((j : Int) < (n : Int)) = false := by simpa using hlt
      go_wp2
      go_quiet (fail)
      go_wp2
      go_ret
      have e := dgAt_stop (zs := zs) (j := j) (fun h => absurd h (by rw [HL.out]; exact hlt))
      have e2 : dgAt zs i = j - i := by have := HD.out; omega
      refine ⟨ret_int (by rw [e2]; omega), ?_, hb.trans (below_drewN _)⟩
      rw [e2, show i + (j - i) = j by omega]
      exact hs.drewN _

end Go.Proofs.Qxb6600868a
