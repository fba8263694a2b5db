import Derived.Test.Qxb6600868aTable
namespace Go.Proofs.Qxb6600868a
open Go.RowKit Pl

set_option maxRecDepth 100000 in
set_option maxHeartbeats 2000000 in
theorem table_walk (a0 : Option Addr) (len0 cap0 : Nat) (z0 : List Int) (a1 : Int) (w : World) (w0 : Row8 w a0 len0 cap0 z0) :
    Calls Try.prog 6 #[.slice a0 len0 cap0, .int .i64 a1] w fun e w' => e = .returned (.bool true) ∧ Below w.heap.size w w' := by
  obtain ⟨hlc, hm, hzl, hzb, hv⟩ := w0.view
  generalize z0.take len0 = zs at hzl hzb hv
  clear w0 hzb
  by_cases hok : len0 ≤ 1048576
  · have ok : okLen len0 = true := by simp [okLen, hok]
    have hg : ¬ (1048576 : Int) < (len0 : Int) := by omega
    by_cases hr : 0 ≤ a1 ∧ a1 < len0
    · obtain ⟨i, rfl⟩ : ∃ i : Nat, a1 = i := ⟨a1.toNat, by omega⟩
      obtain ⟨hr0, hr1⟩ := hr
      have hi : i < len0 := by omega
      have HC := copy_sides hzl hv
      have HZ : Hid (zs.length = len0) := hzl
      obtain ⟨b, off, rfl, _, _⟩ := hv (by omega)
      have hne := fun wx => run_neq_slice_nil_any (P := Try.prog) wx 22 5 (some ⟨b, off, none⟩) len0 cap0 0 0 Try.underlying22
      have hmk := run_make_row' (P := Try.prog) 22 5 (.int .u8 0) 1 Try.underlying22 info5 rfl .i64 .i64 len0 (by omega) (by omega)
      clear hzl hv
      go_enter Try.func6, Try.ntmps6
      go_upto_if 46 with (first | (go_at_call 20; refine (zzb20 _ _ _ _ _ hm).mono ?_; rintro e w' ⟨rfl, hw⟩; subst w'; rw [ok]) | (refine wpList_copy_splice rfl (.tmp 35) (.tmp 36) 22 22 rfl 5 Try.underlying22 size5 _ _ _ _ _ _ rfl rfl w.heap.size 0 (List.replicate len0 (Value.int .u8 0)) 5 (made_block w len0) (bcells zs) HC.n HC.pos HC.fit (bcells_one zs) w.heap.size w ((Below.refl _ _).alloc (Nat.le_refl _) _) (Nat.le_refl _) ?_; intro w2 HG HB))
      clear hne hmk HC
      have HT := txt_of_copy HG.out HZ.out (by omega)
      have HGl : Hid (w.heap.size < w2.heap.size) := lt_of_block HG.out
      clear HG
      go_cut [8, 9] (fun s8 s9 wc => s8 = .int .i64 (esc zs i).1 ∧ s9 = .bool (esc zs i).2 ∧ wc = w2)
      case rest =>
        obtain ⟨rfl, rfl, hw⟩ := hcut
        subst wc
        go_wp2_with fail
        refine (zzesc_any HT (fun _ => HGl.out) hi).mono ?_
        rintro e' w3 ⟨rfl, hb3⟩
        have HB3 : Hid _ := HB.trans (hb3.mono (Nat.le_of_lt HGl.out))
        clear hb3 HB HT
        go_wp2
        go_ret
        exact ⟨rfl, HB3.out⟩
      case first =>
        by_cases hlt : i + 1 < len0
        · have hx := HT.cell (i + 1) hlt
          obtain ⟨x, hX⟩ : ∃ x, x = zs.getD (i + 1) 0 := ⟨_, rfl⟩
          rw [← hX] at hx
          have HX : Hid (x = zs.getD (i + 1) 0) := hX
          clear hX
          by_cases hE : isEsc x = true
          · have HE : Hid (esc zs i = (i + 1, true)) := by unfold esc Hid; rw [← HX.out, HZ.out, if_pos hlt, if_pos hE]
            go_wp2_with (go_at_call 21; refine (isEsc_any _ _).mono ?_; rintro e w' ⟨rfl, hw⟩; subst w')
            go_meet
            case rel => rw [HE.out]; exact ⟨by go_num, rfl, rfl⟩
          · have hE' : isEsc x = false := by simpa using hE
            clear hE
            by_cases hu : x = 117
            · have HE : Hid (esc zs i = hexRun zs (i + 1) 4) := by unfold esc Hid; rw [← HX.out, HZ.out, if_pos hlt, hE', if_neg (by simp), if_pos hu]
              have hu' : (x == 117) = true := by simpa using hu
              clear hu
              go_wp2_with (go_at_call 21; refine (isEsc_any _ _).mono ?_; rintro e w' ⟨rfl, hw⟩; subst w')
              clear hx HX
              go_loop [11, 12] (fun h t => ∃ r : Nat, r ≤ 4 ∧ t = .int .i64 (3 - (r : Int)) ∧ h = .int .i64 (fb zs (i + 2) r)) (fun _ t => (intOf t + 1).toNat)
              case atStart => exact ⟨0, by omega, rfl, rfl⟩
              case round =>
                obtain ⟨r, hr4, rfl, rfl⟩ := hrel
                have hfl := fb_le zs (i + 2) r
                by_cases hr3 : r < 4
                · obtain ⟨m, hm3⟩ : ∃ m : Nat, m + r = 3 := ⟨3 - r, by omega⟩
                  have hm' : (3 : Int) - (r : Int) = (m : Int) := by omega
                  have HF : fb zs (i + 2) (r + 1) = if bad zs (i + 2 + m) = true then m else fb zs (i + 2) r := by
                    rw [fb, show 3 - r = m by omega]
                  rw [hm']
                  have hms : (m : Int) - 1 = 3 - ((r + 1 : Nat) : Int) := by omega
                  have HMS : Hid ((m : Int) - 1 = 3 - ((r + 1 : Nat) : Int)) := hms
                  clear hm' hms
                  by_cases hq : i + 2 + m < len0
                  · have hy := HT.cell (i + 2 + m) hq
                    rw [show i + 2 + m = i + 1 + 1 + m by omega] at hy
                    have hq1 : ¬ (len0 : Int) ≤ (i : Int) + 1 + 1 + (m : Int) := by omega
                    obtain ⟨y, hY⟩ : ∃ y, y = zs.getD (i + 1 + 1 + m) 0 := ⟨_, rfl⟩
                    rw [← hY] at hy
                    have hbad : bad zs (i + 2 + m) = !isHex y := by
                      rw [hY, show i + 1 + 1 + m = i + 2 + m by omega]
                      unfold bad; rw [HZ.out, decide_eq_true hq, Bool.true_and]
                    clear hY
                    by_cases hh : isHex y = true
                    · have HF' : Hid (fb zs (i + 2) r = fb zs (i + 2) (r + 1)) := by rw [HF, hbad, hh]; rfl
                      clear HF hbad
                      go_wp2_with (go_at_call 22; refine (escHex_any _ _).mono ?_; rintro e w' ⟨rfl, hw⟩; subst w')
                      go_round
                      case rel => exact ⟨r + 1, by omega, by rw [HMS.out], by rw [HF'.out]⟩
                      case measure => simp [intOf]
                    · have hh' : isHex y = false := by simpa using hh
                      have HF' : Hid ((m : Int) = (fb zs (i + 2) (r + 1) : Nat)) := by rw [HF, hbad, hh']; rfl
                      clear HF hbad hh
                      go_wp2_with (go_at_call 22; refine (escHex_any _ _).mono ?_; rintro e w' ⟨rfl, hw⟩; subst w')
                      go_round
                      case rel => exact ⟨r + 1, by omega, by rw [HMS.out], by rw [HF'.out]⟩
                      case measure => simp [intOf]
                  · have hq1 : (len0 : Int) ≤ (i : Int) + 1 + 1 + (m : Int) := by omega
                    have hbad : bad zs (i + 2 + m) = true := by unfold bad; rw [HZ.out, decide_eq_false hq]; rfl
                    have HF' : Hid ((m : Int) = (fb zs (i + 2) (r + 1) : Nat)) := by rw [HF, hbad]; rfl
                    clear HF hbad
                    go_wp2_with (go_at_call 22; refine (escHex_any _ _).mono ?_; rintro e w' ⟨rfl, hw⟩; subst w')
                    go_round
                    case rel => exact ⟨r + 1, by omega, by rw [HMS.out], by rw [HF'.out]⟩
                    case measure => simp [intOf]
                · obtain rfl : r = 4 := by omega
                  have HR : Hid (esc zs i = if fb zs (i + 2) 4 = 4 then (i + 2 + 3, true) else (i + 2 + fb zs (i + 2) 4, false)) := HE.out.trans (hexRun_fb zs (i + 2) 4 (by omega) (i + 1) (by omega))
                  generalize fb zs (i + 2) 4 = f at hfl HR
                  clear HE
                  by_cases hf4 : f = 4
                  · subst hf4
                    have HR' : Hid (esc zs i = (i + 2 + 3, true)) := by have := HR.out; rw [if_pos rfl] at this; exact this
                    clear HR
                    go_wp2_with fail
                    go_meet
                    case rel => rw [HR'.out]; exact ⟨by go_num, rfl, rfl⟩
                  · have hf' : ((f : Int) == 4) = false := by simp; omega
                    have HR' : Hid (esc zs i = (i + 2 + f, false)) := by have := HR.out; rw [if_neg hf4] at this; exact this
                    clear HR
                    go_wp2_with fail
                    go_meet
                    case rel => rw [HR'.out]; exact ⟨by go_num, rfl, rfl⟩
            · have HE : Hid (esc zs i = (i + 1, false)) := by unfold esc Hid; rw [← HX.out, HZ.out, if_pos hlt, hE', if_neg (by simp), if_neg hu]
              have hu' : (x == 117) = false := by simpa using hu
              clear hu
              go_wp2_with (go_at_call 21; refine (isEsc_any _ _).mono ?_; rintro e w' ⟨rfl, hw⟩; subst w')
              go_meet
              case rel => rw [HE.out]; exact ⟨by go_num, rfl, rfl⟩
        · have HE : Hid (esc zs i = (i + 1, false)) := esc_no (by rw [HZ.out]; exact hlt)
          go_wp2_with fail
          go_meet
          case rel => rw [HE.out]; exact ⟨by go_num, rfl, rfl⟩
    · have hz : a1 < 0 ∨ (0 ≤ a1 ∧ (len0 : Int) ≤ a1) := by omega
      clear hv hr
      rcases hz with hz | ⟨hz1, hz2⟩
      · go_enter Try.func6, Try.ntmps6
        go_wp2_with (go_at_call 20; refine (zzb20 _ _ _ _ _ hm).mono ?_; rintro e w' ⟨rfl, hw⟩; subst w'; rw [ok])
        go_ret
        exact ⟨rfl, Below.refl _ _⟩
      · have hz3 : ¬ a1 < 0 := by omega
        go_enter Try.func6, Try.ntmps6
        go_wp2_with (go_at_call 20; refine (zzb20 _ _ _ _ _ hm).mono ?_; rintro e w' ⟨rfl, hw⟩; subst w'; rw [ok])
        go_ret
        exact ⟨rfl, Below.refl _ _⟩
  · have ok : okLen len0 = false := by simp [okLen, hok]
    clear hv
    go_enter Try.func6, Try.ntmps6
    go_wp2_with (go_at_call 20; refine (zzb20 _ _ _ _ _ hm).mono ?_; rintro e w' ⟨rfl, hw⟩; subst w'; rw [ok])
    go_ret
    exact ⟨rfl, Below.refl _ _⟩

end Go.Proofs.Qxb6600868a
