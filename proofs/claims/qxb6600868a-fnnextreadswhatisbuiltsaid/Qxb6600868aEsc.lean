import Derived.Test.Qxb6600868aBase
namespace Go.Proofs.Qxb6600868a
open Go.RowKit Pl

set_option maxHeartbeats 400000 in
theorem at_any {w : World} {c : Nat} {a : Option Addr} {g n cap : Nat} {zs : List Int} {i : Nat} {sp : Bool} (h : St w c a g n cap zs i sp) (b : Int) :
    Calls Try.prog 42 #[.pointer (some ⟨c, 0, none⟩), .int .u8 b] w fun e w' => e = .returned (.bool (atB zs i b)) ∧ ∃ m, w' = w.drewN m := by
  have h0 := h.chk.c0
  have h1 := h.chk.c1
  have hn := h.txt.small
  have hl := h.txt.len
  by_cases hlt : i < n
  · have hx := h.txt.cell i hlt
    obtain rfl := h.txt.addr (by omega)
    obtain ⟨x, hX⟩ : ∃ x, x = zs.getD i 0 := ⟨_, rfl⟩
    rw [← hX] at hx
    have e : atB zs i b = (x == b) := by rw [Bool.eq_iff_iff]; simp [atB, hX]; omega
    rw [e]
    clear h hl hX e
    have hlt' : (i : Int) < (n : Int) := by omega
    go_enter Try.func42, Try.ntmps42
    go_wp2
    go_quiet (fail)
    go_wp2
    go_ret
    exact ⟨rfl, _, rfl⟩
  · have e : atB zs i b = false := by simp [atB]; omega
    rw [e]
    have hd : decide ((i : Int) < (n : Int)) = false := by simp; omega
    clear h hl e
    go_enter Try.func42, Try.ntmps42
    go_wp2
    go_quiet (fail)
    go_wp2
    go_ret
    exact ⟨rfl, _, rfl⟩

theorem esc_no {zs : List Int} {i : Nat} (h : ¬ i + 1 < zs.length) : esc zs i = (i + 1, false) := by unfold esc; rw [if_neg h]

theorem esc_hit {zs : List Int} {i n : Nat} {x k : Int} (hl : zs.length = n) (hlt : i + 1 < n) (hx : x = zs.getD (i + 1) 0) (h : (x == k) = true) (hk : isEsc k = true) : esc zs i = (i + 1, true) := by
  have h' : x = k := by simpa using h
  unfold esc; rw [if_pos (by omega), ← hx, h', if_pos hk]
theorem esc_u {zs : List Int} {i n : Nat} {x : Int} (hl : zs.length = n) (hlt : i + 1 < n) (hx : x = zs.getD (i + 1) 0) (h : (x == 117) = true) : esc zs i = hexRun zs (i + 1) 4 := by
  have h' : x = 117 := by simpa using h
  unfold esc; rw [if_pos (by omega), ← hx, h', if_neg (by decide), if_pos rfl]
theorem esc_miss {zs : List Int} {i n : Nat} {x : Int} (hl : zs.length = n) (hlt : i + 1 < n) (hx : x = zs.getD (i + 1) 0) (h1 : (x == 34) = false) (h2 : (x == 92) = false) (h3 : (x == 47) = false)
    (h4 : (x == 98) = false) (h5 : (x == 102) = false) (h6 : (x == 110) = false) (h7 : (x == 114) = false) (h8 : (x == 116) = false) (h9 : (x == 117) = false) : esc zs i = (i + 1, false) := by
  simp at h1 h2 h3 h4 h5 h6 h7 h8 h9
  unfold esc; rw [if_pos (by omega), ← hx, if_neg (by simp [isEsc, h1, h2, h3, h4, h5, h6, h7, h8]), if_neg h9]

theorem hex_go {zs : List Int} {j m n : Nat} {x : Int} (hl : zs.length = n) (hlt : j + 1 < n) (hx : x = zs.getD (j + 1) 0) (h : isHex x = true) : hexRun zs j (m + 1) = hexRun zs (j + 1) m := by
  rw [hexRun, if_pos ⟨by omega, by rw [← hx]; exact h⟩]
theorem hex_stop {zs : List Int} {j m n : Nat} {x : Int} (hl : zs.length = n) (hx : x = zs.getD (j + 1) 0) (h : j + 1 < n → isHex x = false) : hexRun zs j (m + 1) = (j + 1, false) := by
  rw [hexRun, if_neg (by intro hh; have := h (by omega); rw [hx] at this; rw [this] at hh; simp at hh)]

set_option maxHeartbeats 1000000 in
theorem esc_any {w : World} {c : Nat} {a : Option Addr} {g n cap : Nat} {zs : List Int} {i : Nat} {sp : Bool} (h : St w c a g n cap zs i sp) (hi : i < n) :
    Calls Try.prog 39 #[.pointer (some ⟨c, 0, none⟩)] w fun e w' => e = .returned (.bool (esc zs i).2) ∧ St w' c a g n cap zs (esc zs i).1 sp ∧ Below c w w' := by
  have h0 := h.chk.c0
  have h1 := h.chk.c1
  have hf := h.chk.free 1
  have hn := h.txt.small
  have hl := h.txt.len
  obtain ⟨hs, hb⟩ := h.step hi
  by_cases hlt : i + 1 < n
  · have HS : Hid (St (w.setCell ⟨c, 1, none⟩ (.int .i64 ((i : Int) + 1))) c a g n cap zs (i + 1) sp) := hs
    have HB : Hid (Below c w (w.setCell ⟨c, 1, none⟩ (.int .i64 ((i : Int) + 1)))) := hb
    have hd : ((i : Int) + 1 == (n : Int)) = false := by simp; omega
    clear h hs hb
    go_enter Try.func39, Try.ntmps39
    go_wp2
    clear h0 h1 hf
    generalize w.setCell ⟨c, 1, none⟩ (.int .i64 ((i : Int) + 1)) = w2 at HS HB ⊢
    have h0 := HS.out.chk.c0
    have h1 := HS.out.chk.c1
    have hx := HS.out.txt.cell (i + 1) hlt
    obtain rfl := HS.out.txt.addr (by omega)
    obtain ⟨x, hX⟩ : ∃ x, x = zs.getD (i + 1) 0 := ⟨_, rfl⟩
    rw [← hX] at hx
    have HX : Hid (x = zs.getD (i + 1) 0) := hX
    have HL : Hid (zs.length = n) := hl
    clear hX hl
    have hlt' : (i : Int) + 1 < (n : Int) := by omega
    simp only [Int.natCast_add, Int.cast_ofNat_Int] at h1
    go_quiet (fail)
    go_wp2
    go_quiet (fail)
    go_wp2
    all_goals try (have E := esc_hit HL.out hlt HX.out (by assumption) (by decide); rw [E]; go_ret; exact ⟨rfl, HS.out.drewN _, HB.out.trans (below_drewN _)⟩)
    · have HE : Hid (hexRun zs (i + 1) 4 = esc zs i) := (esc_u HL.out hlt HX.out (by assumption)).symm
      clear hx
      go_loopw [41] (fun t wr => ∃ k j : Nat, t = .int .i64 k ∧ k ≤ 4 ∧ j < n ∧ Hid (St wr c (some ⟨g, 0, none⟩) g n cap zs j sp ∧ Below c w wr ∧ hexRun zs j (4 - k) = esc zs i)) (fun t _ => (4 - intOf t).toNat)
      case atStart => exact ⟨0, i + 1, rfl, by omega, hlt, HS.out.drewN _, HB.out.trans (below_drewN _), HE.out⟩
      case round =>
        clear HS HB HX HE h0 h1
        obtain ⟨k, j, rfl, hk, hj, HR⟩ := hrel
        by_cases hk4 : k < 4
        · have h0 := HR.out.1.chk.c0
          have h1 := HR.out.1.chk.c1
          have hf := HR.out.1.chk.free 1
          have HS : Hid _ := (HR.out.1.step hj).1
          have HB : Hid _ := (HR.out.1.step hj).2
          by_cases hj1 : j + 1 < n
          · have hd : ((j : Int) + 1 == (n : Int)) = false := by simp; omega
            have hlt' : (j : Int) + 1 < (n : Int) := by omega
            go_wp2
            clear h0 h1 hf
            generalize wr.setCell ⟨c, 1, none⟩ (.int .i64 ((j : Int) + 1)) = w3 at HS HB ⊢
            have h0 := HS.out.chk.c0
            have h1 := HS.out.chk.c1
            have hx := HS.out.txt.cell (j + 1) hj1
            obtain ⟨y, hY⟩ : ∃ y, y = zs.getD (j + 1) 0 := ⟨_, rfl⟩
            rw [← hY] at hx
            have HY : Hid (y = zs.getD (j + 1) 0) := hY
            clear hY
            simp only [Int.natCast_add, Int.cast_ofNat_Int] at h1
            by_cases hh : isHex y = true
            · go_quiet ((go_at_call 44; exact Calls.quiet_of_same (isHex_any _ _)))
              go_wp2
              go_roundw
              case rel =>
                refine ⟨k + 1, j + 1, by go_num, by omega, hj1, HS.out.drewN _, (HR.out.2.1.trans HB.out).trans (below_drewN _), ?_⟩
                have := hex_go (m := 4 - (k + 1)) HL.out hj1 HY.out hh
                rw [← this, show 4 - (k + 1) + 1 = 4 - k by omega]
                exact HR.out.2.2
              case measure => simp [intOf]; omega
            · have hh' : isHex y = false := by simpa using hh
              have HE : Hid ((j + 1, false) = esc zs i) := by
                have := hex_stop (m := 4 - (k + 1)) HL.out HY.out (fun _ => hh')
                rw [← this, show 4 - (k + 1) + 1 = 4 - k by omega]
                exact HR.out.2.2
              clear hh
              go_quiet ((go_at_call 44; exact Calls.quiet_of_same (isHex_any _ _)))
              go_wp2
              go_ret
              rw [← HE.out]
              exact ⟨rfl, HS.out.drewN _, (HR.out.2.1.trans HB.out).trans (below_drewN _)⟩
          · have HE : Hid ((j + 1, false) = esc zs i) := by
              have := hex_stop (m := 4 - (k + 1)) (x := zs.getD (j + 1) 0) HL.out rfl (fun h => absurd h hj1)
              rw [← this, show 4 - (k + 1) + 1 = 4 - k by omega]
              exact HR.out.2.2
            have hd : ((j : Int) + 1 == (n : Int)) = true := by simp; omega
            go_wp2
            clear h0 h1 hf
            generalize wr.setCell ⟨c, 1, none⟩ (.int .i64 ((j : Int) + 1)) = w3 at HS HB ⊢
            have h0 := HS.out.chk.c0
            have h1 := HS.out.chk.c1
            simp only [Int.natCast_add, Int.cast_ofNat_Int] at h1
            go_quiet (fail)
            go_wp2
            go_ret
            rw [← HE.out]
            exact ⟨rfl, HS.out.drewN _, (HR.out.2.1.trans HB.out).trans (below_drewN _)⟩
        · have HE : Hid ((j, true) = esc zs i) := by have := HR.out.2.2; rw [show 4 - k = 0 by omega] at this; exact this
          go_wp2
          go_ret
          rw [← HE.out]
          exact ⟨rfl, HR.out.1, HR.out.2.1⟩
    · have E := esc_miss HL.out hlt HX.out (by assumption) (by assumption) (by assumption) (by assumption) (by assumption) (by assumption) (by assumption) (by assumption) (by assumption)
      rw [E]
      go_ret
      exact ⟨rfl, HS.out.drewN _, HB.out.trans (below_drewN _)⟩
  · have he : esc zs i = (i + 1, false) := esc_no (by omega)
    rw [he]
    have hd : ((i : Int) + 1 == (n : Int)) = true := by simp; omega
    have H : Hid (St w c a g n cap zs i sp) := h
    have HS : Hid (St (w.setCell ⟨c, 1, none⟩ (.int .i64 ((i : Int) + 1))) c a g n cap zs (i + 1) sp) := hs
    have HB : Hid (Below c w (w.setCell ⟨c, 1, none⟩ (.int .i64 ((i : Int) + 1)))) := hb
    clear h hl he hs hb
    go_enter Try.func39, Try.ntmps39
    go_wp2
    go_quiet (fail)
    go_wp2
    go_ret
    exact ⟨rfl, HS.out.drewN _, HB.out.trans (below_drewN _)⟩

end Go.Proofs.Qxb6600868a
