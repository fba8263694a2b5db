import Derived.Test.Qxb6600868aGap
import Derived.Test.Qxb6600868aEvery
namespace Go.Proofs.Qxb6600868a
open Go.RowKit Pl

theorem u8_and15n (y : Int) (h0 : 0 ≤ y) (h1 : y ≤ 255) : ∃ d : Nat, d < 16 ∧ bits .and .u8 y 15 = (d : Int) := by
  refine ⟨(y % 16).toNat, by omega, ?_⟩
  have := u8_and y 15 h0 (by omega) (by omega) (by omega)
  rw [this]
  have e : y.toNat &&& (15 : Int).toNat = y.toNat % 16 := Nat.and_two_pow_sub_one_eq_mod y.toNat 4
  rw [e]; omega

theorem View.byte0 {w : World} {a : Option Addr} {m cap : Nat} {ys : List Int} (h : View w a m cap ys) (k : Nat) : 0 ≤ ys.getD k 0 ∧ ys.getD k 0 ≤ 255 := by
  by_cases hk : k < ys.length
  · rw [List.getD_eq_getElem?_getD, List.getElem?_eq_getElem hk]
    exact h.byte _ (List.getElem_mem hk)
  · rw [List.getD_eq_getElem?_getD, List.getElem?_eq_none (by omega)]; simp

/-- A byte that may stand raw in a string. -/
def rawB (x : Int) : Bool := decide (x ≠ 34 ∧ x ≠ 92 ∧ 32 ≤ x)

/-- Where nxQuote's loop stands. -/
structure QtAt (w0 wr : World) (ad : Option Addr) (n' cap : Nat) (zs q : List Int) (n k : Nat) : Prop where
  bt : Bt w0 wr ad n' cap (zs ++ [34] ++ q)
  body : Body q
  few : n' ≤ n + 1 + 6 * k

set_option maxRecDepth 100000 in
set_option maxHeartbeats 4000000 in
theorem quote_any {w0 w : World} {ad : Option Addr} {n cap : Nat} {zs : List Int} (hb : Bt w0 w ad n cap zs) {a1 : Option Addr} {l1 c1 : Nat} {y1 : List Int} (v1 : View w0 a1 l1 c1 y1) {a2 : Option Addr} {l2 c2 : Nat} {y2 : List Int} (v2 : View w0 a2 l2 c2 y2)
    (hn : n ≤ 1000000) (hl1 : l1 ≤ 131072) (hl2 : l2 ≤ 131072) :
    Calls Try.prog 33 #[.slice ad n cap, .slice a1 l1 c1, .slice a2 l2 c2] w fun e w' => ∃ (ad' : Option Addr) (n' cap' : Nat), e = .returned (.slice ad' n' cap') ∧ ∃ q : List Int, Bt w0 w' ad' n' cap' (zs ++ [34] ++ q ++ [34]) ∧ Body q ∧ n' ≤ n + 2 + 6 * l1 := by
  go_enter Try.func33, Try.ntmps33
  go_wp2_with (at_builtin; go_must (refine wpList_push (w0 := w0) rfl (.tmp 13) (.tmp 14) rfl _ _ _ _ hb rfl 1 [34] rfl rfl (by omega) _ _ rfl rfl ?_); intro ad1 cap1 w1 hb1)
  go_loopg [0, 7] l1 (fun m t i wr => ∃ (k : Nat) (ad' : Option Addr) (n' cap' : Nat) (q : List Int), m = l1 - k ∧ k ≤ l1 ∧ i = .int .i64 k ∧ t = .slice ad' n' cap' ∧ QtAt w0 wr ad' n' cap' zs q n k)
  case atStart => exact ⟨0, ad1, n + 1, cap1, [], by omega, by omega, rfl, rfl, ⟨by simpa using hb1, Body.nil, by omega⟩⟩
  case round =>
    clear hb hb1
    obtain ⟨k, ad', n', cap', q, hm, hk, rfl, rfl, hQ⟩ := hrel
    have hfew := hQ.few
    have HM : Hid (gk = l1 - k) := hm
    clear hm
    by_cases hlt : k < l1
    · obtain ⟨b, off, rfl, _, hc⟩ := (v1.carry hQ.bt.bel).at_ (by omega)
      have hx := hc k hlt
      obtain ⟨hy0, hy1⟩ := v1.byte0 k
      generalize y1.getD k 0 = x at hx hy0 hy1
      clear hc
      have hlt' : (k : Int) < (l1 : Int) := by omega
      go_upto_if 29 with fail
      go_cut [9] (fun s wc => ∃ h : Int, s = .int .u8 h ∧ 0 ≤ h ∧ h ≤ 255 ∧ wc = wr)
      case first =>
        by_cases hk2 : k < l2
        · obtain ⟨b2, off2, rfl, _, hc2⟩ := (v2.carry hQ.bt.bel).at_ (by omega)
          have hx2 := hc2 k hk2
          obtain ⟨hz0, hz1⟩ := v2.byte0 k
          generalize y2.getD k 0 = z at hx2 hz0 hz1
          clear hc2
          have hk2' : (k : Int) < (l2 : Int) := by omega
          go_wp2_with fail
          go_meet
          case rel => exact ⟨z, rfl, hz0, hz1, rfl⟩
        · have hk2' : ¬ (k : Int) < (l2 : Int) := by omega
          go_wp2_with fail
          go_meet
          case rel => exact ⟨0, rfl, by omega, by omega, rfl⟩
      case rest =>
        obtain ⟨h, rfl, hh0, hh1, hw⟩ := hcut
        subst wc
        clear hx
        go_upto_region 11 with (go_at_call 40; refine (short_any _ _).mono ?_; rintro e w' ⟨y, rfl, hy, hw⟩; subst w')
        have HY : Hid (y = 0 ∨ isEsc y = true) := hy
        clear hy
        go_cut [12] (fun s wc => s = .bool (rawB x) ∧ wc = wr)
        case first =>
          cases h34 : (x != 34)
          · have e : rawB x = false := by simp at h34; simp [rawB, h34]
            go_wp2_with fail
            go_meet
            case rel => exact ⟨by rw [e], rfl⟩
          · cases h92 : (x != 92)
            · have e : rawB x = false := by simp at h92; simp [rawB, h92]
              go_wp2_with fail
              go_meet
              case rel => exact ⟨by rw [e], rfl⟩
            · have e : rawB x = decide (32 ≤ x) := by simp at h34 h92; simp [rawB, h34, h92]
              go_wp2_with fail
              go_meet
              case rel => exact ⟨by rw [e], rfl⟩
        case rest =>
          obtain ⟨rfl, hw⟩ := hcut
          subst wc
          have hQb := hQ.bt
          go_upto_region 12 with fail
          go_cut [52] (fun s wc => s = .bool ((h % 3 == 0) && rawB x) ∧ wc = wr)
          case first =>
            cases hA : (h % 3 == 0)
            · go_wp2_with fail
              go_meet
              case rel => exact ⟨by rw [hA, Bool.false_and], rfl⟩
            · go_wp2_with fail
              go_meet
              case rel => exact ⟨by rw [hA, Bool.true_and], rfl⟩
          case rest =>
            obtain ⟨rfl, hw⟩ := hcut
            subst wc
            cases hA : ((h % 3 == 0) && rawB x)
            · go_upto_region 14 with fail
              go_cut [62] (fun s wc => s = .bool (decide (h % 3 ≤ 1) && (y != 0)) ∧ wc = wr)
              case first =>
                by_cases hA3 : h % 3 ≤ 1
                · have e : (decide (h % 3 ≤ 1) && (y != 0)) = (y != 0) := by simp [hA3]
                  go_wp2_with fail
                  go_meet
                  case rel => exact ⟨by rw [e], rfl⟩
                · have e : (decide (h % 3 ≤ 1) && (y != 0)) = false := by simp [hA3]
                  go_wp2_with fail
                  go_meet
                  case rel => exact ⟨by rw [e], rfl⟩
              case rest =>
                obtain ⟨rfl, hw⟩ := hcut
                subst wc
                cases hB : (decide (h % 3 ≤ 1) && (y != 0))
                · go_upto_if 73 with (at_builtin; go_must (refine wpList_push (w0 := w0) rfl (.tmp 67) (.tmp 68) rfl _ _ _ _ hQb rfl 4 [92, 117, 48, 48] rfl rfl (by omega) _ _ rfl rfl ?_); intro ad2 cap2 w2 hb2)
                  go_cut [0] (fun s wc => ∃ (ad3 : Option Addr) (cap3 : Nat) (h1 : Int), s = .slice ad3 (n' + 5) cap3 ∧ Bt w0 wc ad3 (n' + 5) cap3 (zs ++ [34] ++ q ++ [92, 117, 48, 48] ++ [h1]) ∧ isHex h1 = true)
                  case first =>
                    obtain ⟨d, hd⟩ : ∃ d : Nat, x / 16 = (d : Int) := ⟨(x / 16).toNat, by omega⟩
                    have hd16 : d < 16 := by omega
                    have hd16' : (d : Int) < 16 := by omega
                    cases hu : (bits BinOp.and IntKind.u8 (h / 4) 1 == 1)
                    · go_wp2_with (at_builtin; go_must (refine wpList_push (w0 := w0) rfl (.tmp 80) (.tmp 84) rfl _ _ _ _ hb2 rfl 1 [_] rfl rfl (by omega) (n' + 5) _ (by omega) rfl ?_); intro ad3 cap3 w3 hb3)
                      go_meet
                      case rel => exact ⟨ad3, cap3, _, rfl, hb3, low_hex d hd16⟩
                    · go_wp2_with (at_builtin; go_must (refine wpList_push (w0 := w0) rfl (.tmp 74) (.tmp 78) rfl _ _ _ _ hb2 rfl 1 [_] rfl rfl (by omega) (n' + 5) _ (by omega) rfl ?_); intro ad3 cap3 w3 hb3)
                      go_meet
                      case rel => exact ⟨ad3, cap3, _, rfl, hb3, up_hex d hd16⟩
                  case rest =>
                    clear hb2 hQb
                    obtain ⟨ad3, cap3, h1, rfl, hb3, hh1⟩ := hcut
                    obtain ⟨d, hd16, hd⟩ := u8_and15n x hy0 hy1
                    have hd16' : (d : Int) < 16 := by omega
                    have HH1 : Hid (isHex h1 = true) := hh1
                    clear hh1
                    cases hu : (bits BinOp.and IntKind.u8 (h / 8) 1 == 1)
                    · go_wp2_with (at_builtin; go_must (refine wpList_push (w0 := w0) rfl (.tmp 96) (.tmp 100) rfl _ _ _ _ hb3 rfl 1 [_] rfl rfl (by omega) (n' + 6) _ (by omega) rfl ?_); intro ad4 cap4 w4 hb4)
                      go_roundg (l1 - (k + 1))
                      case measure => have := HM.out; omega
                      case rel => exact ⟨k + 1, ad4, n' + 6, cap4, q ++ [92, 117, 48, 48, h1, _], rfl, by omega, by go_num, rfl, ⟨by simpa using hb4, hQ.body.append (Body.long (by decide) (by decide) HH1.out (low_hex d hd16)), by omega⟩⟩
                    · go_wp2_with (at_builtin; go_must (refine wpList_push (w0 := w0) rfl (.tmp 90) (.tmp 94) rfl _ _ _ _ hb3 rfl 1 [_] rfl rfl (by omega) (n' + 6) _ (by omega) rfl ?_); intro ad4 cap4 w4 hb4)
                      go_roundg (l1 - (k + 1))
                      case measure => have := HM.out; omega
                      case rel => exact ⟨k + 1, ad4, n' + 6, cap4, q ++ [92, 117, 48, 48, h1, _], rfl, by omega, by go_num, rfl, ⟨by simpa using hb4, hQ.body.append (Body.long (by decide) (by decide) HH1.out (up_hex d hd16)), by omega⟩⟩
                · have hBd : Body [92, y] := by
                    have hy := HY.out
                    simp at hB
                    exact Body.short (hy.resolve_left hB.2)
                  go_wp2_with (at_builtin; go_must (refine wpList_push (w0 := w0) rfl (.tmp 63) (.tmp 65) rfl _ _ _ _ hQb rfl 2 [92, y] rfl rfl (by omega) _ _ rfl rfl ?_); intro ad2 cap2 w2 hb2)
                  go_roundg (l1 - (k + 1))
                  case measure => have := HM.out; omega
                  case rel => exact ⟨k + 1, ad2, n' + 2, cap2, q ++ [92, y], rfl, by omega, by go_num, rfl, ⟨by rw [← List.append_assoc]; exact hb2, hQ.body.append hBd, by omega⟩⟩
            · have hB : Body [x] := by
                simp only [Bool.and_eq_true, rawB, decide_eq_true_eq] at hA
                exact Body.raw hA.2.1 hA.2.2.1 (by omega)
              go_wp2_with (at_builtin; go_must (refine wpList_push (w0 := w0) rfl (.tmp 53) (.tmp 55) rfl _ _ _ _ hQb rfl 1 [x] rfl rfl (by omega) _ _ rfl rfl ?_); intro ad2 cap2 w2 hb2)
              go_roundg (l1 - (k + 1))
              case measure => have := HM.out; omega
              case rel => exact ⟨k + 1, ad2, n' + 1, cap2, q ++ [x], rfl, by omega, by go_num, rfl, ⟨by rw [← List.append_assoc]; exact hb2, hQ.body.append hB, by omega⟩⟩
    · have hlt' : ¬ (k : Int) < (l1 : Int) := by omega
      have hQ2 := hQ.bt
      go_wp2_with (at_builtin; go_must (refine wpList_push (w0 := w0) rfl (.tmp 102) (.tmp 103) rfl _ _ _ _ hQ2 rfl 1 [34] rfl rfl (by omega) _ _ rfl rfl ?_); intro ad2 cap2 w2 hb2)
      go_ret
      exact ⟨ad2, n' + 1, cap2, rfl, q, by simpa using hb2, hQ.body, by omega⟩

end Go.Proofs.Qxb6600868a
