import Derived.Test.Qxb6600868aZzEsc
import Derived.Test.Qxb6600868aPlainNext
namespace Go.Proofs.Qxb6600868a
open Go.RowKit Pl

/-- Where the loop over white space stands: j, having begun at i. -/
structure SpAt (zs : List Int) (i j : Nat) (sp sp' : Bool) : Prop where
  ij : i ≤ j
  eq : spAt zs i = (j - i) + spAt zs j
  flag : sp' = (sp || decide (i < j))

theorem SpAt.end_ {zs : List Int} {i j : Nat} {sp sp' : Bool} (h : SpAt zs i j sp sp') (hx : j < zs.length → isSp (zs.getD j 0) = false) : j = skip zs i ∧ sp' = skipSp zs i sp := by
  have e := spAt_stop hx
  have h1 := h.eq
  have h2 := h.ij
  refine ⟨by unfold skip; omega, ?_⟩
  rw [h.flag, skipSp]
  congr 2
  apply propext; constructor <;> intro <;> omega
theorem SpAt.go {zs : List Int} {i j : Nat} {sp sp' : Bool} (h : SpAt zs i j sp sp') (hj : j < zs.length) (hx : isSp (zs.getD j 0) = true) : SpAt zs i (j + 1) sp true := by
  have e := spAt_step hj hx
  have h1 := h.eq
  have h2 := h.ij
  exact ⟨by omega, by omega, by simp; omega⟩

set_option maxRecDepth 100000 in
set_option maxHeartbeats 1000000 in
theorem space_any {w : World} {c : Nat} {a : Option Addr} {g n cap : Nat} {zs : List Int} {i : Nat} {sp : Bool} (h : St w c a g n cap zs i sp) :
    Calls Try.prog 45 #[.pointer (some ⟨c, 0, none⟩)] w fun e w' => e = .returned (.tuple #[]) ∧ St w' c a g n cap zs (skip zs i) (skipSp zs i sp) ∧ Below c w w' := by
  have hn := h.txt.small
  have HL : Hid (zs.length = n) := h.txt.len
  go_enter Try.func45, Try.ntmps45
  go_wp2
  go_loopg [] (n - i) (fun k wr => ∃ (j : Nat) (sp' : Bool), k = n - j ∧ SpAt zs i j sp sp' ∧ St wr c a g n cap zs j sp' ∧ Below c w wr)
  case atStart => exact ⟨i, sp, rfl, ⟨Nat.le_refl _, by omega, by simp⟩, h, Below.refl _ _⟩
  case round =>
    clear h
    obtain ⟨j, sp', hk, hS, hs, hb⟩ := hrel
    have h0 := hs.chk.c0
    have h1 := hs.chk.c1
    have hj := hs.le
    by_cases hlt : j < n
    · have hx := hs.txt.cell j hlt
      obtain rfl := hs.txt.addr (by omega)
      obtain ⟨x, hX⟩ : ∃ x, x = zs.getD j 0 := ⟨_, rfl⟩
      rw [← hX] at hx
      have HX : Hid (x = zs.getD j 0) := hX
      have HK : Hid (gk = n - j) := hk
      have hlt' : (j : Int) < (n : Int) := by omega
      clear hX hk
      cases hd : isSp x
      · go_wp2
        go_quiet ((go_at_call 48; exact Calls.quiet_of_same (isSp_any _ _)))
        go_wp2
        go_end0
        obtain ⟨rfl, rfl⟩ := hS.end_ (fun _ => by rw [← HX.out]; exact hd)
        exact ⟨rfl, hs.drewN _, hb.trans (below_drewN _)⟩
      · have hf := hs.chk.free 1
        have hf3 := hs.chk.free 3
        have h3 := hs.chk.c3
        go_wp2
        go_quiet ((go_at_call 48; exact Calls.quiet_of_same (isSp_any _ _)))
        go_wp2
        obtain ⟨hs2, hb2⟩ := (hs.drewN nq).step hlt
        obtain ⟨hs3, hb3⟩ := hs2.spaced
        go_roundg (n - (j + 1))
        case measure => have := HK.out; omega
        case rel => exact ⟨j + 1, true, rfl, hS.go (by rw [HL.out]; exact hlt) (by rw [← HX.out]; exact hd), hs3, ((hb.trans (below_drewN _)).trans hb2).trans hb3⟩
    · have hd2 : decide ((j : Int) < (n : Int)) = false := by simpa using hlt
      go_wp2
      go_quiet (fail)
      go_wp2
      go_end0
      obtain ⟨rfl, rfl⟩ := hS.end_ (fun h => absurd h (by rw [HL.out]; exact hlt))
      exact ⟨rfl, hs.drewN _, hb.trans (below_drewN _)⟩

end Go.Proofs.Qxb6600868a
