import Derived.Test.Qxb6600868aSpace
namespace Go.Proofs.Qxb6600868a
open Go.RowKit Pl

/-- Where the loop over a string's bytes stands: at j, with p for the answer. -/
structure StrAt (zs : List Int) (p : Nat × Bool) (f j : Nat) : Prop where
  fuel : zs.length < f + j
  eq : p = strF zs f j

theorem StrAt.quote {zs : List Int} {p : Nat × Bool} {f j : Nat} {x : Int} (h : StrAt zs p f j) (hj : j < zs.length) (hx : x = zs.getD j 0) (h34 : (x == 34) = true) : p = (j + 1, true) := by
  have h' : x = 34 := by simpa using h34
  have hf := h.fuel
  obtain ⟨f, rfl⟩ : ∃ f', f = f' + 1 := ⟨f - 1, by omega⟩
  rw [h.eq, strF, if_pos hj, ← hx, if_pos h']
theorem StrAt.escNo {zs : List Int} {p : Nat × Bool} {f j : Nat} {x : Int} (h : StrAt zs p f j) (hj : j < zs.length) (hx : x = zs.getD j 0) (h92 : (x == 92) = true) (he : (esc zs j).2 = false) : p = ((esc zs j).1, false) := by
  have h' : x = 92 := by simpa using h92
  have hf := h.fuel
  obtain ⟨f, rfl⟩ : ∃ f', f = f' + 1 := ⟨f - 1, by omega⟩
  rw [h.eq, strF, if_pos hj, ← hx, if_neg (by omega), if_pos h', he, if_neg (by simp)]
theorem StrAt.escYes {zs : List Int} {p : Nat × Bool} {f j : Nat} {x : Int} (h : StrAt zs p f j) (hj : j < zs.length) (hx : x = zs.getD j 0) (h92 : (x == 92) = true) (he : (esc zs j).2 = true) : StrAt zs p (f - 1) ((esc zs j).1 + 1) := by
  have h' : x = 92 := by simpa using h92
  have hf := h.fuel
  have hl := esc_le zs j hj
  obtain ⟨f, rfl⟩ : ∃ f', f = f' + 1 := ⟨f - 1, by omega⟩
  refine ⟨by omega, ?_⟩
  rw [h.eq, strF, if_pos hj, ← hx, if_neg (by omega), if_pos h', he, if_pos rfl]; rfl
theorem StrAt.low {zs : List Int} {p : Nat × Bool} {f j : Nat} {x : Int} (h : StrAt zs p f j) (hj : j < zs.length) (hx : x = zs.getD j 0) (h34 : (x == 34) = false) (h92 : (x == 92) = false) (hl : x < 32) : p = (j, false) := by
  simp at h34 h92
  have hf := h.fuel
  obtain ⟨f, rfl⟩ : ∃ f', f = f' + 1 := ⟨f - 1, by omega⟩
  rw [h.eq, strF, if_pos hj, ← hx, if_neg h34, if_neg h92, if_pos hl]
theorem StrAt.raw {zs : List Int} {p : Nat × Bool} {f j : Nat} {x : Int} (h : StrAt zs p f j) (hj : j < zs.length) (hx : x = zs.getD j 0) (h34 : (x == 34) = false) (h92 : (x == 92) = false) (hl : ¬ x < 32) : StrAt zs p (f - 1) (j + 1) := by
  simp at h34 h92
  have hf := h.fuel
  obtain ⟨f, rfl⟩ : ∃ f', f = f' + 1 := ⟨f - 1, by omega⟩
  refine ⟨by omega, ?_⟩
  rw [h.eq, strF, if_pos hj, ← hx, if_neg h34, if_neg h92, if_neg hl]; rfl
theorem StrAt.past {zs : List Int} {p : Nat × Bool} {f j : Nat} (h : StrAt zs p f j) (hj : ¬ j < zs.length) : p = (j, false) := by
  rw [h.eq]
  cases f with
  | zero => rfl
  | succ f => rw [strF, if_neg hj]

set_option maxRecDepth 100000 in
set_option maxHeartbeats 2000000 in
theorem str_any {w : World} {c : Nat} {a : Option Addr} {g n cap : Nat} {zs : List Int} {i : Nat} {sp : Bool} (h : St w c a g n cap zs i sp) (hi : i < n) :
    Calls Try.prog 49 #[.pointer (some ⟨c, 0, none⟩)] w fun e w' => e = .returned (.bool (str zs i).2) ∧ St w' c a g n cap zs (str zs i).1 sp ∧ Below c w w' := by
  have hn := h.txt.small
  have HL : Hid (zs.length = n) := h.txt.len
  have h1 := h.chk.c1
  have hf := h.chk.free 1
  obtain ⟨hs2, hb2⟩ := h.step hi
  obtain ⟨p, hp⟩ : ∃ p, p = str zs i := ⟨_, rfl⟩
  rw [← hp]
  have hA : StrAt zs p (zs.length + 1) (i + 1) := ⟨by omega, hp⟩
  clear hp h
  go_enter Try.func49, Try.ntmps49
  go_wp2
  clear h1 hf
  go_loopg [] (n - (i + 1)) (fun k wr => ∃ (j f : Nat), k = n - j ∧ StrAt zs p f j ∧ St wr c a g n cap zs j sp ∧ Below c w wr)
  case atStart => exact ⟨i + 1, _, rfl, hA, hs2, hb2⟩
  case round =>
    clear hA hs2 hb2
    obtain ⟨j, f, hk, hS, hs, hb⟩ := hrel
    have h0 := hs.chk.c0
    have h1 := hs.chk.c1
    have hj := hs.le
    by_cases hlt : j < n
    · have hx := hs.txt.cell j hlt
      obtain rfl := hs.txt.addr (by omega)
      obtain ⟨x, hX⟩ : ∃ x, x = zs.getD j 0 := ⟨_, rfl⟩
      rw [← hX] at hx
      have HX : Hid (x = zs.getD j 0) := hX
      have HK : Hid (gk = n - j) := hk
      have hlt' : (j : Int) < (n : Int) := by omega
      have hf := hs.chk.free 1
      have HJ : Hid (j < zs.length) := by rw [HL.out]; exact hlt
      clear hX hk
      cases h34 : (x == 34)
      · cases h92 : (x == 92)
        · by_cases h32 : x < 32
          · have HP : Hid (p = (j, false)) := hS.low HJ.out HX.out h34 h92 h32
            go_wp2
            go_quiet (fail)
            go_wp2
            go_quiet (fail)
            go_wp2
            go_quiet (fail)
            go_wp2
            go_ret
            rw [HP.out]
            exact ⟨rfl, (hs.drewN _).drewN _, hb.trans ((below_drewN _).trans (below_drewN _))⟩
          · have hS2 := hS.raw HJ.out HX.out h34 h92 h32
            go_wp2
            go_quiet (fail)
            go_wp2
            go_quiet (fail)
            go_wp2
            go_quiet (fail)
            go_wp2
            go_roundg (n - (j + 1))
            case measure => have := HK.out; omega
            case rel => exact ⟨j + 1, _, rfl, hS2, ((hs.drewN _).step hlt).1, hb.trans ((below_drewN _).trans ((hs.drewN _).step hlt).2)⟩
        · obtain ⟨q, hq⟩ : ∃ q, q = esc zs j := ⟨_, rfl⟩
          have hql := esc_le zs j HJ.out
          have hqo := esc_ok zs j
          have hN := hS.escNo HJ.out HX.out h92
          have hY := hS.escYes HJ.out HX.out h92
          rw [← hq] at hql hqo hN hY
          obtain ⟨e, o⟩ := q
          have HQ : Hid ((e, o) = esc zs j) := hq
          simp only at hql hqo hN hY
          have HE1 : Hid (j + 1 ≤ e ∧ e ≤ n) := by have := HL.out; exact ⟨by omega, by omega⟩
          clear hql hq
          cases o with
          | false =>
            have HP : Hid (p = (e, false)) := hN rfl
            clear hN hY hqo
            go_wp2
            go_quiet (fail)
            go_wp2
            go_quiet (fail)
            go_wp2_with (go_at_call 39; refine (esc_any (hs.drewN _) hlt).mono ?_; rw [← HQ.out]; rintro e' w' ⟨rfl, hs3, hb3⟩)
            go_ret
            rw [HP.out]
            exact ⟨rfl, hs3, (hb.trans (below_drewN _)).trans hb3⟩
          | true =>
            have hS2 := hY rfl
            have hen : e < n := by have := (hqo rfl).1; have := HL.out; omega
            clear hN hY hqo
            go_wp2
            go_quiet (fail)
            go_wp2
            go_quiet (fail)
            go_wp2_with (go_at_call 39; refine (esc_any (hs.drewN _) hlt).mono ?_; rw [← HQ.out]; rintro e' w' ⟨rfl, hs3, hb3⟩; have k1 := hs3.chk.c1; have k2 := hs3.chk.free 1)
            go_roundg (n - (e + 1))
            case measure => have := HK.out; have := HE1.out; omega
            case rel => exact ⟨e + 1, _, rfl, hS2, (hs3.step hen).1, (hb.trans (below_drewN _)).trans (hb3.trans (hs3.step hen).2)⟩
      · have HP : Hid (p = (j + 1, true)) := hS.quote HJ.out HX.out h34
        go_wp2
        go_quiet (fail)
        go_wp2
        go_quiet (fail)
        go_wp2
        go_ret
        rw [HP.out]
        exact ⟨rfl, ((hs.drewN _).step hlt).1, hb.trans ((below_drewN _).trans ((hs.drewN _).step hlt).2)⟩
    · have HP : Hid (p = (j, false)) := hS.past (by rw [HL.out]; exact hlt)
      have hlt' : ¬ (j : Int) < (n : Int) := by omega
      go_wp2
      go_quiet (fail)
      go_wp2
      go_ret
      rw [HP.out]
      exact ⟨rfl, hs.drewN _, hb.trans (below_drewN _)⟩

end Go.Proofs.Qxb6600868a
