import Derived.Test.Qxb6600868aZzEsc
import Derived.Test.Qxb6600868aBuild
import Derived.Laws.BitsAllLaws
namespace Go.Proofs.Qxb6600868a
open Go.RowKit Pl

set_option maxHeartbeats 400000 in
theorem zzb24 (a0 : Option Addr) (l0 c0 : Nat) (x1 x2 x3 : Int) (a4 : Option Addr) (l4 c4 : Nat) (w : World) (h0 : l0 ≤ maxLen) (h4 : l4 ≤ maxLen) :
    Calls Try.prog 24 #[.slice a0 l0 c0, .int .u8 x1, .int .u16 x2, .int .u8 x3, .slice a4 l4 c4] w fun e w' => e = .returned (.bool (okLen (l0 + l4))) ∧ w' = w := by
  unfold maxLen at h0 h4
  by_cases h : l0 + l4 ≤ 1048576
  · have h1 : ¬ (1048576 : Int) < (l0 : Int) := by omega
    have h2 : ¬ (1048576 : Int) < (l4 : Int) := by omega
    have h3 : ¬ (1048576 : Int) < (l0 : Int) + (l4 : Int) := by omega
    go_enter Try.func24, Try.ntmps24
    go_wp2
    go_ret
    exact ⟨ret_bool (by simp [okLen, h]), rfl⟩
  · go_enter Try.func24, Try.ntmps24
    go_wp2
    all_goals
      go_ret
      exact ⟨ret_bool (by simp [okLen, h]), rfl⟩

theorem low_hex (k : Nat) (h : k < (⟨#[48, 49, 50, 51, 52, 53, 54, 55, 56, 57, 97, 98, 99, 100, 101, 102]⟩ : ByteArray).size) : isHex (((⟨#[48, 49, 50, 51, 52, 53, 54, 55, 56, 57, 97, 98, 99, 100, 101, 102]⟩ : ByteArray)[k]'h).toNat : Int) = true := by
  have hh : ∀ j : Fin 16, isHex (((⟨#[48, 49, 50, 51, 52, 53, 54, 55, 56, 57, 97, 98, 99, 100, 101, 102]⟩ : ByteArray)[j.1]'j.2).toNat : Int) = true := by decide
  exact hh ⟨k, h⟩
theorem up_hex (k : Nat) (h : k < (⟨#[48, 49, 50, 51, 52, 53, 54, 55, 56, 57, 65, 66, 67, 68, 69, 70]⟩ : ByteArray).size) : isHex (((⟨#[48, 49, 50, 51, 52, 53, 54, 55, 56, 57, 65, 66, 67, 68, 69, 70]⟩ : ByteArray)[k]'h).toNat : Int) = true := by
  have hh : ∀ j : Fin 16, isHex (((⟨#[48, 49, 50, 51, 52, 53, 54, 55, 56, 57, 65, 66, 67, 68, 69, 70]⟩ : ByteArray)[j.1]'j.2).toNat : Int) = true := by decide
  exact hh ⟨k, h⟩
theorem u16_and15 (y : Int) (h0 : 0 ≤ y) (h1 : y ≤ 65535) : ∃ d : Nat, d < 16 ∧ bits .and .u16 y 15 = (d : Int) := by
  refine ⟨(y % 16).toNat, by omega, ?_⟩
  have := u16_and y 15 h0 (by omega) (by omega) (by omega)
  rw [this]
  have e : y.toNat &&& (15 : Int).toNat = y.toNat % 16 := Nat.and_two_pow_sub_one_eq_mod y.toNat 4
  rw [e]; omega
theorem getD_app (zs r : List Int) (k : Nat) : (zs ++ r).getD (zs.length + k) 0 = r.getD k 0 := by
  simp [List.getD_eq_getElem?_getD, List.getElem?_append_right]
theorem esc_short (zs ps : List Int) (y : Int) (l : Nat) (hl : zs.length = l) (hy : isEsc y = true) : esc (zs ++ [92] ++ [y] ++ ps) l = (l + 1, true) := by
  subst hl
  have e : zs ++ [92] ++ [y] ++ ps = zs ++ (92 :: y :: ps) := by simp
  rw [e]; unfold esc
  rw [getD_app, if_pos (by simp), if_pos (by simpa using hy)]
theorem esc_long (zs hs ps : List Int) (l : Nat) (hl : zs.length = l) (h4 : hs.length = 4) (hh : ∀ h ∈ hs, isHex h = true) : esc (zs ++ [92, 117] ++ hs ++ ps) l = (l + 5, true) := by
  subst hl
  match hs, h4 with
  | [h0, h1, h2, h3], _ =>
    have e : zs ++ [92, 117] ++ [h0, h1, h2, h3] ++ ps = zs ++ (92 :: 117 :: h0 :: h1 :: h2 :: h3 :: ps) := by simp
    have g : ∀ k, (zs ++ (92 :: 117 :: h0 :: h1 :: h2 :: h3 :: ps)).getD (zs.length + k) 0 = (92 :: 117 :: h0 :: h1 :: h2 :: h3 :: ps).getD k 0 := getD_app _ _
    have hL : (zs ++ (92 :: 117 :: h0 :: h1 :: h2 :: h3 :: ps)).length = zs.length + ps.length + 6 := by simp; omega
    rw [e]; unfold esc
    have e1 : (92 :: 117 :: h0 :: h1 :: h2 :: h3 :: ps : List Int).getD 1 0 = 117 := rfl
    rw [g, e1, if_pos (by omega), if_neg (by decide), if_pos rfl]
    rw [hexRun, if_pos ⟨by omega, by rw [Nat.add_assoc, g]; exact hh h0 (by simp)⟩]
    rw [hexRun, if_pos ⟨by omega, by rw [Nat.add_assoc, Nat.add_assoc, g]; exact hh h1 (by simp)⟩]
    rw [hexRun, if_pos ⟨by omega, by rw [Nat.add_assoc, Nat.add_assoc, Nat.add_assoc, g]; exact hh h2 (by simp)⟩]
    rw [hexRun, if_pos ⟨by omega, by rw [Nat.add_assoc, Nat.add_assoc, Nat.add_assoc, Nat.add_assoc, g]; exact hh h3 (by simp)⟩]
    rw [hexRun]
theorem all_snoc {hs : List Int} {y : Int} (h : ∀ x ∈ hs, isHex x = true) (hy : isHex y = true) : ∀ x ∈ hs ++ [y], isHex x = true := by
  intro x hx
  rcases List.mem_append.1 hx with hx | hx
  · exact h x hx
  · simp at hx; rw [hx]; exact hy

set_option maxHeartbeats 400000 in
theorem letter_any (x : Int) (w : World) : Calls Try.prog 25 #[.int .u8 x] w fun e w' => ∃ y : Int, e = .returned (.int .u8 y) ∧ isEsc y = true ∧ w' = w := by
  go_enter Try.func25, Try.ntmps25
  go_wp2
  all_goals
    go_ret
    exact ⟨_, rfl, rfl, rfl⟩

set_option maxRecDepth 100000 in
set_option maxHeartbeats 2000000 in
theorem every_walk (a0 : Option Addr) (l0 c0 : Nat) (z0 : List Int) (x1 x2 x3 : Int) (a4 : Option Addr) (l4 c4 : Nat) (z4 : List Int) (w : World) (w0 : Row8 w a0 l0 c0 z0) (w4 : Row8 w a4 l4 c4 z4)
    (b1 : 0 ≤ x1 ∧ x1 ≤ 255) (b2 : 0 ≤ x2 ∧ x2 ≤ 65535) (b3 : 0 ≤ x3 ∧ x3 ≤ 255) :
    Calls Try.prog 7 #[.slice a0 l0 c0, .int .u8 x1, .int .u16 x2, .int .u8 x3, .slice a4 l4 c4] w fun e w' => e = .returned (.bool true) ∧ Below w.heap.size w w' := by
  have v0 := w0.look
  have v4 := w4.look
  have m0 := w0.view.2.1
  have m4 := w4.view.2.1
  generalize z0.take l0 = zs at v0
  generalize z4.take l4 = ps at v4
  clear w0 w4
  by_cases hok : l0 + l4 ≤ 1048576 ∧ l0 ≤ 524288 ∧ l4 ≤ 524288
  · obtain ⟨hok, hk0, hk4⟩ := hok
    have ok : okLen (l0 + l4) = true := by simp [okLen, hok]
    have hg0 : ¬ (524288 : Int) < (l0 : Int) := by omega
    have hg4 : ¬ (524288 : Int) < (l4 : Int) := by omega
    obtain ⟨b10, b11⟩ := b1
    obtain ⟨b20, b21⟩ := b2
    obtain ⟨b30, b31⟩ := b3
    have hst := Bt.start w
    by_cases hk : x1 % 9 < 8
    · go_enter Try.func7, Try.ntmps7
      go_wp2_with (first
        | (go_at_call 24; refine (zzb24 _ _ _ _ _ _ _ _ _ _ m0 m4).mono ?_; rintro e w' ⟨rfl, hw⟩; subst w'; rw [ok])
        | (at_builtin; refine wpList_appView (w0 := w) rfl (.tmp 30) (.tmp 31) rfl none 0 0 [] hst rfl a0 l0 c0 zs rfl v0 (by omega) l0 zs (by omega) rfl ?_; intro ad1 cap1 w1 hb1)
        | (at_builtin; refine wpList_push (w0 := w) rfl (.tmp 33) (.tmp 34) rfl _ _ _ _ hb1 rfl 1 [92] rfl rfl (by omega) (l0 + 1) (zs ++ [92]) rfl rfl ?_; intro ad2 cap2 w2 hb2)
        | (go_at_call 25; refine (letter_any _ _).mono ?_; rintro e w' ⟨y, rfl, hy, hw⟩; subst w')
        | (at_builtin; refine wpList_push (w0 := w) rfl (.tmp 42) (.tmp 46) rfl _ _ _ _ hb2 rfl 1 [y] rfl rfl (by omega) (l0 + 2) (zs ++ [92] ++ [y]) rfl rfl ?_; intro ad3 cap3 w3 hb3; have hv4 := v4.carry hb3.bel)
        | (at_builtin; refine wpList_appView (w0 := w) rfl (.tmp 81) (.tmp 82) rfl _ _ _ _ hb3 rfl a4 l4 c4 ps rfl hv4 (by omega) (l0 + 2 + l4) _ (by omega) rfl ?_; intro ad5 cap5 w5 hb5))
      obtain ⟨g, ht, hg⟩ := hb5.txt (by omega)
      refine (zzesc_any ht hg (by omega)).mono ?_
      rw [esc_short zs ps y l0 v0.len hy]
      rintro e' w6 ⟨rfl, hb6⟩
      have HB : Hid (Below w.heap.size w w6) := hb5.bel.trans (hb6.mono hb5.bel.size)
      clear hb6 ht hg hb5 hb3 hb2 hb1 hv4
      go_wp2
      go_ret
      exact ⟨rfl, HB.out⟩
    · go_enter Try.func7, Try.ntmps7
      go_wp2_with (first
        | (go_at_call 24; refine (zzb24 _ _ _ _ _ _ _ _ _ _ m0 m4).mono ?_; rintro e w' ⟨rfl, hw⟩; subst w'; rw [ok])
        | (at_builtin; refine wpList_appView (w0 := w) rfl (.tmp 30) (.tmp 31) rfl none 0 0 [] hst rfl a0 l0 c0 zs rfl v0 (by omega) l0 zs (by omega) rfl ?_; intro ad1 cap1 w1 hb1)
        | (at_builtin; refine wpList_push (w0 := w) rfl (.tmp 33) (.tmp 34) rfl _ _ _ _ hb1 rfl 1 [92] rfl rfl (by omega) (l0 + 1) (zs ++ [92]) rfl rfl ?_; intro ad2 cap2 w2 hb2)
        | (at_builtin; refine wpList_push (w0 := w) rfl (.tmp 48) (.tmp 49) rfl _ _ _ _ hb2 rfl 1 [117] rfl rfl (by omega) (l0 + 2) (zs ++ [92, 117]) rfl (by simp) ?_; intro ad3 cap3 w3 hb3))
      clear hst hb1 hb2
      go_loopw [11, 13] (fun t i wr => ∃ (k : Nat) (ad : Option Addr) (cap : Nat) (hs : List Int), k ≤ 4 ∧ i = .int .i64 k ∧ hs.length = k ∧ (∀ h ∈ hs, isHex h = true) ∧ t = .slice ad (l0 + 2 + k) cap ∧ Bt w wr ad (l0 + 2 + k) cap (zs ++ [92, 117] ++ hs)) (fun _ i _ => 4 - (intOf i).toNat)
      case atStart => exact ⟨0, ad3, cap3, [], by omega, rfl, rfl, by simp, rfl, by simpa using hb3⟩
      case round =>
        clear hb3
        obtain ⟨k, ad, cap, hs, hk4, rfl, hl, hh, rfl, hb⟩ := hrel
        by_cases hk3 : k < 4
        · have HL : Hid (hs.length = k) := hl
          have HH : Hid (∀ h ∈ hs, isHex h = true) := hh
          clear hl hh
          rcases (show k = 0 ∨ k = 1 ∨ k = 2 ∨ k = 3 by omega) with rfl | rfl | rfl | rfl
          · obtain ⟨d, hd16, hd⟩ := u16_and15 (x2 / 4096) (by omega) (by omega)
            have hd' : (d : Int) < 16 := by omega
            cases hu : (bits BinOp.and IntKind.u8 (x3) 1 == 1)
            · go_wp2_with (at_builtin; go_must (refine wpList_push (w0 := w) rfl (.tmp 73) (.tmp 76) rfl _ _ _ _ hb rfl 1 [_] rfl rfl (by omega) _ _ rfl rfl ?_); intro ad' cap' w' hb')
              go_roundw
              case rel => exact ⟨1, _, _, hs ++ [_], by omega, by go_num, by simp [HL.out], all_snoc HH.out (low_hex d hd16), rfl, by rw [← List.append_assoc]; exact hb'⟩
              case measure => simp [intOf]
            · go_wp2_with (at_builtin; go_must (refine wpList_push (w0 := w) rfl (.tmp 68) (.tmp 71) rfl _ _ _ _ hb rfl 1 [_] rfl rfl (by omega) _ _ rfl rfl ?_); intro ad' cap' w' hb')
              go_roundw
              case rel => exact ⟨1, _, _, hs ++ [_], by omega, by go_num, by simp [HL.out], all_snoc HH.out (up_hex d hd16), rfl, by rw [← List.append_assoc]; exact hb'⟩
              case measure => simp [intOf]
          · obtain ⟨d, hd16, hd⟩ := u16_and15 (x2 / 256) (by omega) (by omega)
            have hd' : (d : Int) < 16 := by omega
            cases hu : (bits BinOp.and IntKind.u8 (x3 / 2) 1 == 1)
            · go_wp2_with (at_builtin; go_must (refine wpList_push (w0 := w) rfl (.tmp 73) (.tmp 76) rfl _ _ _ _ hb rfl 1 [_] rfl rfl (by omega) _ _ rfl rfl ?_); intro ad' cap' w' hb')
              go_roundw
              case rel => exact ⟨2, _, _, hs ++ [_], by omega, by go_num, by simp [HL.out], all_snoc HH.out (low_hex d hd16), rfl, by rw [← List.append_assoc]; exact hb'⟩
              case measure => simp [intOf]
            · go_wp2_with (at_builtin; go_must (refine wpList_push (w0 := w) rfl (.tmp 68) (.tmp 71) rfl _ _ _ _ hb rfl 1 [_] rfl rfl (by omega) _ _ rfl rfl ?_); intro ad' cap' w' hb')
              go_roundw
              case rel => exact ⟨2, _, _, hs ++ [_], by omega, by go_num, by simp [HL.out], all_snoc HH.out (up_hex d hd16), rfl, by rw [← List.append_assoc]; exact hb'⟩
              case measure => simp [intOf]
          · obtain ⟨d, hd16, hd⟩ := u16_and15 (x2 / 16) (by omega) (by omega)
            have hd' : (d : Int) < 16 := by omega
            cases hu : (bits BinOp.and IntKind.u8 (x3 / 4) 1 == 1)
            · go_wp2_with (at_builtin; go_must (refine wpList_push (w0 := w) rfl (.tmp 73) (.tmp 76) rfl _ _ _ _ hb rfl 1 [_] rfl rfl (by omega) _ _ rfl rfl ?_); intro ad' cap' w' hb')
              go_roundw
              case rel => exact ⟨3, _, _, hs ++ [_], by omega, by go_num, by simp [HL.out], all_snoc HH.out (low_hex d hd16), rfl, by rw [← List.append_assoc]; exact hb'⟩
              case measure => simp [intOf]
            · go_wp2_with (at_builtin; go_must (refine wpList_push (w0 := w) rfl (.tmp 68) (.tmp 71) rfl _ _ _ _ hb rfl 1 [_] rfl rfl (by omega) _ _ rfl rfl ?_); intro ad' cap' w' hb')
              go_roundw
              case rel => exact ⟨3, _, _, hs ++ [_], by omega, by go_num, by simp [HL.out], all_snoc HH.out (up_hex d hd16), rfl, by rw [← List.append_assoc]; exact hb'⟩
              case measure => simp [intOf]
          · obtain ⟨d, hd16, hd⟩ := u16_and15 (x2) (by omega) (by omega)
            have hd' : (d : Int) < 16 := by omega
            cases hu : (bits BinOp.and IntKind.u8 (x3 / 8) 1 == 1)
            · go_wp2_with (at_builtin; go_must (refine wpList_push (w0 := w) rfl (.tmp 73) (.tmp 76) rfl _ _ _ _ hb rfl 1 [_] rfl rfl (by omega) _ _ rfl rfl ?_); intro ad' cap' w' hb')
              go_roundw
              case rel => exact ⟨4, _, _, hs ++ [_], by omega, by go_num, by simp [HL.out], all_snoc HH.out (low_hex d hd16), rfl, by rw [← List.append_assoc]; exact hb'⟩
              case measure => simp [intOf]
            · go_wp2_with (at_builtin; go_must (refine wpList_push (w0 := w) rfl (.tmp 68) (.tmp 71) rfl _ _ _ _ hb rfl 1 [_] rfl rfl (by omega) _ _ rfl rfl ?_); intro ad' cap' w' hb')
              go_roundw
              case rel => exact ⟨4, _, _, hs ++ [_], by omega, by go_num, by simp [HL.out], all_snoc HH.out (up_hex d hd16), rfl, by rw [← List.append_assoc]; exact hb'⟩
              case measure => simp [intOf]
        · obtain rfl : k = 4 := by omega
          have HE : Hid (esc (zs ++ [92, 117] ++ hs ++ ps) l0 = (l0 + 5, true)) := esc_long zs hs ps l0 v0.len hl hh
          have hv4 := v4.carry hb.bel
          clear hl hh
          go_wp2_with (at_builtin; go_must (refine wpList_appView (w0 := w) rfl (.tmp 81) (.tmp 82) rfl _ _ _ _ hb rfl a4 l4 c4 ps rfl hv4 (by omega) (l0 + 6 + l4) _ (by omega) rfl ?_); intro ad5 cap5 w5 hb5)
          obtain ⟨g, ht, hg⟩ := hb5.txt (by omega)
          refine (zzesc_any ht hg (by omega)).mono ?_
          rw [HE.out]
          rintro e' w6 ⟨rfl, hb6⟩
          have HB : Hid (Below w.heap.size w w6) := hb5.bel.trans (hb6.mono hb5.bel.size)
          clear hb6 ht hg hb5 hb hv4
          go_wp2
          go_ret
          exact ⟨rfl, HB.out⟩
  · by_cases h1 : l0 + l4 ≤ 1048576
    · have ok : okLen (l0 + l4) = true := by simp [okLen, h1]
      by_cases h2 : l0 ≤ 524288
      · have g0 : ¬ (524288 : Int) < (l0 : Int) := by omega
        have g4 : (524288 : Int) < (l4 : Int) := by omega
        clear hok
        go_enter Try.func7, Try.ntmps7
        go_wp2_with (go_at_call 24; refine (zzb24 _ _ _ _ _ _ _ _ _ _ m0 m4).mono ?_; rintro e w' ⟨rfl, hw⟩; subst w'; rw [ok])
        go_ret
        exact ⟨rfl, Below.refl _ _⟩
      · have g0 : (524288 : Int) < (l0 : Int) := by omega
        clear hok
        go_enter Try.func7, Try.ntmps7
        go_wp2_with (go_at_call 24; refine (zzb24 _ _ _ _ _ _ _ _ _ _ m0 m4).mono ?_; rintro e w' ⟨rfl, hw⟩; subst w'; rw [ok])
        go_ret
        exact ⟨rfl, Below.refl _ _⟩
    · have ok : okLen (l0 + l4) = false := by simp [okLen, h1]
      clear hok
      go_enter Try.func7, Try.ntmps7
      go_wp2_with (go_at_call 24; refine (zzb24 _ _ _ _ _ _ _ _ _ _ m0 m4).mono ?_; rintro e w' ⟨rfl, hw⟩; subst w'; rw [ok])
      go_ret
      exact ⟨rfl, Below.refl _ _⟩

end Go.Proofs.Qxb6600868a
