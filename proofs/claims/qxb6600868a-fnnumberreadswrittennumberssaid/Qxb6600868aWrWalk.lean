import Derived.Test.Qxb6600868aWrRun
namespace Go.Proofs.Qxb6600868a
open Go.RowKit Pl

set_option maxHeartbeats 400000 in
theorem zzb17 (x0 : Bool) (a1 : Option Addr) (l1 c1 : Nat) (x2 : Bool) (a3 : Option Addr) (l3 c3 : Nat) (x4 x5 : Bool) (x6 : Int) (a7 : Option Addr) (l7 c7 : Nat) (a8 : Option Addr) (l8 c8 : Nat) (w : World)
    (h1 : l1 ≤ maxLen) (h3 : l3 ≤ maxLen) (h7 : l7 ≤ maxLen) (h8 : l8 ≤ maxLen) :
    Calls Try.prog 17 #[.bool x0, .slice a1 l1 c1, .bool x2, .slice a3 l3 c3, .bool x4, .bool x5, .int .u8 x6, .slice a7 l7 c7, .slice a8 l8 c8] w fun e w' => e = .returned (.bool (okLen (l1 + l3 + l7 + l8))) ∧ w' = w := by
  unfold maxLen at h1 h3 h7 h8
  by_cases h : l1 + l3 + l7 + l8 ≤ 1048576
  · have g1 : ¬ (1048576 : Int) < (l1 : Int) := by omega
    have g3 : ¬ (1048576 : Int) < (l3 : Int) := by omega
    have g7 : ¬ (1048576 : Int) < (l7 : Int) := by omega
    have g8 : ¬ (1048576 : Int) < (l8 : Int) := by omega
    have g9 : ¬ (1048576 : Int) < (l1 : Int) + (l3 : Int) := by omega
    have g10 : ¬ (1048576 : Int) < (l1 : Int) + (l3 : Int) + (l7 : Int) := by omega
    have g11 : ¬ (1048576 : Int) < (l1 : Int) + (l3 : Int) + (l7 : Int) + (l8 : Int) := by omega
    go_enter Try.func17, Try.ntmps17
    go_wp2
    go_ret
    exact ⟨ret_bool (by simp [okLen, h]), rfl⟩
  · go_enter Try.func17, Try.ntmps17
    go_wp2
    all_goals
      go_ret
      exact ⟨ret_bool (by simp [okLen, h]), rfl⟩

set_option maxRecDepth 100000 in
set_option maxHeartbeats 4000000 in
theorem wr_walk (x0 : Bool) (a1 : Option Addr) (l1 c1 : Nat) (z1 : List Int) (x2 : Bool) (a3 : Option Addr) (l3 c3 : Nat) (z3 : List Int) (x4 x5 : Bool) (x6 : Int) (a7 : Option Addr) (l7 c7 : Nat) (z7 : List Int) (a8 : Option Addr) (l8 c8 : Nat) (z8 : List Int) (w : World)
    (w1 : Row8 w a1 l1 c1 z1) (w3 : Row8 w a3 l3 c3 z3) (b6 : 0 ≤ x6 ∧ x6 ≤ 255) (w7 : Row8 w a7 l7 c7 z7) (w8 : Row8 w a8 l8 c8 z8) :
    Calls Try.prog 5 #[.bool x0, .slice a1 l1 c1, .bool x2, .slice a3 l3 c3, .bool x4, .bool x5, .int .u8 x6, .slice a7 l7 c7, .slice a8 l8 c8] w fun e w' => e = .returned (.bool true) ∧ Below w.heap.size w w' := by
  have v1 := w1.look
  have v3 := w3.look
  have v7 := w7.look
  have v8 := w8.look
  have m1 := w1.view.2.1
  have m3 := w3.view.2.1
  have m7 := w7.view.2.1
  have m8 := w8.view.2.1
  generalize z1.take l1 = y1 at v1
  generalize z3.take l3 = y3 at v3
  generalize z7.take l7 = y7 at v7
  generalize z8.take l8 = y8 at v8
  clear w1 w3 w7 w8
  by_cases hok : l1 + l3 + l7 + l8 ≤ 1048576
  · have ok : okLen (l1 + l3 + l7 + l8) = true := by simp [okLen, hok]
    by_cases hb : l1 ≤ 262144 ∧ l3 ≤ 262144 ∧ l7 ≤ 262144 ∧ l8 ≤ 262144
    · obtain ⟨k1, k3, k7, k8⟩ := hb
      have g1 : ¬ (262144 : Int) < (l1 : Int) := by omega
      have g3 : ¬ (262144 : Int) < (l3 : Int) := by omega
      have g7 : ¬ (262144 : Int) < (l7 : Int) := by omega
      have g8 : ¬ (262144 : Int) < (l8 : Int) := by omega
      obtain ⟨b60, b61⟩ := b6
      have hst := Bt.start w
      go_enter Try.func5, Try.ntmps5
      go_upto_if 51 with (go_at_call 17; refine (zzb17 _ _ _ _ _ _ _ _ _ _ _ _ _ _ _ _ _ _ m1 m3 m7 m8).mono ?_; rintro e w' ⟨rfl, hw⟩; subst w'; rw [ok])
      go_cut [] (fun wc => wc = w ∧ OkT y8)
      case first =>
        by_cases h0 : 0 < l8
        · obtain ⟨b, off, rfl, _, hc⟩ := v8.at_ h0
          have hx := hc 0 h0
          simp only [Nat.add_zero] at hx
          have HY : Hid (∃ t, y8 = y8.getD 0 0 :: t) := ⟨y8.drop 1, by have := drop_cons (zs := y8) (j := 0) (by have := v8.len; omega); simpa using this⟩
          generalize y8.getD 0 0 = x at hx HY
          clear hc
          have h0' : (0 : Int) < (l8 : Int) := by omega
          cases hd : isDig x
          · go_wp2_with (go_at_call 18; refine (isDig_any _ _).mono ?_; rintro e w' ⟨rfl, hw⟩; subst w')
            all_goals first
              | (go_ret; exact ⟨rfl, Below.refl _ _⟩)
              | (have hh : ((x == 46) = false ∧ (x == 101) = false) ∧ (x == 69) = false := by assumption
                 go_meet
                 case rel =>
                   refine ⟨rfl, fun y l e => ?_⟩
                   obtain ⟨t, ht⟩ := HY.out
                   rw [ht] at e
                   obtain ⟨rfl, _⟩ := List.cons.inj e
                   exact ⟨hd, by simpa using hh.1.1, by simpa using hh.1.2, by simpa using hh.2⟩)
          · go_wp2_with (go_at_call 18; refine (isDig_any _ _).mono ?_; rintro e w' ⟨rfl, hw⟩; subst w')
            go_ret
            exact ⟨rfl, Below.refl _ _⟩
        · have h0' : ¬ (0 : Int) < (l8 : Int) := by omega
          go_wp2_with fail
          go_meet
          case rel =>
            refine ⟨rfl, fun x l e => ?_⟩
            have := v8.len; rw [e] at this; simp at this; omega
      case rest =>
        obtain ⟨hw, hT⟩ := hcut
        subst wc
        go_upto_if 69 with fail
        go_cut [20] (fun s wc => ∃ (ad : Option Addr) (n cap : Nat) (sg : List Int), s = .slice ad n cap ∧ Bt w wc ad n cap sg ∧ Sgn sg ∧ n ≤ 1)
        case first =>
          cases x0
          · go_wp2_with fail
            go_meet
            case rel => exact ⟨none, 0, 0, [], rfl, hst, .inl rfl, by omega⟩
          · go_wp2_with (at_builtin; go_must (refine wpList_push (w0 := w) rfl (.tmp 70) (.tmp 71) rfl none 0 0 [] hst rfl 1 [45] rfl rfl (by omega) 1 [45] rfl rfl ?_); intro ad1 cap1 w1 hb1)
            go_meet
            case rel => exact ⟨_, _, _, [45], rfl, hb1, .inr rfl, by omega⟩
        case rest =>
          clear hst
          obtain ⟨ad, n, cap, sg, rfl, hb, hsg, hn⟩ := hcut
          go_upto_if 75 with fail
          go_cut [20] (fun s wc => ∃ (ad : Option Addr) (n cap : Nat) (wh : List Int), s = .slice ad n cap ∧ Bt w wc ad n cap (sg ++ wh) ∧ Wh wh ∧ n ≤ 262146)
          case first =>
            by_cases h0 : l1 = 0
            · have h0' : ((l1 : Int) == 0) = true := by simpa using h0
              clear h0
              go_wp2_with (at_builtin; go_must (refine wpList_push (w0 := w) rfl (.tmp 76) (.tmp 77) rfl _ _ _ _ hb rfl 1 [48] rfl rfl (by omega) _ _ rfl rfl ?_); intro ad1 cap1 w1 hb1)
              go_meet
              case rel => exact ⟨_, _, _, [48], rfl, hb1, .inl rfl, by omega⟩
            · have h0' : ((l1 : Int) == 0) = false := by simpa using h0
              have hp1 : (0 : Int) < (l1 : Int) := by omega
              have hvb := v1.carry hb.bel
              obtain ⟨b, off, rfl, _, hc⟩ := hvb.at_ (by omega)
              have hx := hc 0 (by omega)
              simp only [Nat.add_zero] at hx
              obtain ⟨hy0, hy1⟩ := v1.byteAt 0
              obtain ⟨y, hY⟩ : ∃ y, y = y1.getD 0 0 := ⟨_, rfl⟩
              rw [← hY] at hx hy0 hy1
              clear hc hY hvb
              go_wp2_with (at_builtin; go_must (refine wpList_push (w0 := w) rfl (.tmp 79) (.tmp 85) rfl _ _ _ _ hb rfl 1 [_] rfl rfl (by omega) _ _ rfl rfl ?_); intro ad1 cap1 w1 hb1)
              clear hx
              go_loopw [20, 21] (fun t i wr => ∃ (k : Nat) (ad' : Option Addr) (cap' : Nat) (ds : List Int), k + 1 ≤ l1 ∧ i = .int .i64 ((k : Int) + 1) ∧ t = .slice ad' (n + 1 + k) cap' ∧ Bt w wr ad' (n + 1 + k) cap' (sg ++ [49 + y % 9] ++ ds) ∧ AllDig ds) (fun _ i _ => l1 - (intOf i).toNat)
              case atStart => exact ⟨0, ad1, cap1, [], by omega, rfl, rfl, by simpa using hb1, fun x hx => by simp at hx⟩
              case round =>
                clear hb1 hb
                obtain ⟨k, ad', cap', ds, hk, rfl, rfl, hb, hds⟩ := hrel
                by_cases hlt : k + 1 < l1
                · obtain ⟨b', off', e, _, hc⟩ := (v1.carry hb.bel).at_ (by omega)
                  obtain ⟨rfl, rfl⟩ : b = b' ∧ off = off' := by simpa using e
                  have hx := hc (k + 1) hlt
                  obtain ⟨hz0, hz1⟩ := v1.byteAt (k + 1)
                  generalize y1.getD (k + 1) 0 = z at hx hz0 hz1
                  clear hc e
                  have hlt' : (k : Int) + 1 < (l1 : Int) := by omega
                  go_wp2_with (at_builtin; go_must (refine wpList_push (w0 := w) rfl (.tmp 93) (.tmp 100) rfl _ _ _ _ hb rfl 1 [_] rfl rfl (by omega) (n + 1 + (k + 1)) _ rfl rfl ?_); intro ad2 cap2 w2 hb2)
                  go_roundw
                  case rel => exact ⟨k + 1, ad2, cap2, ds ++ [48 + z % 10], by omega, by go_num, rfl, by rw [← List.append_assoc]; exact hb2, allDig_snoc hds (isDig_of (by omega) (by omega))⟩
                  case measure => simp [intOf]; omega
                · have hlt' : ¬ (k : Int) + 1 < (l1 : Int) := by omega
                  go_wp2_with fail
                  go_meet
                  case rel => exact ⟨_, _, _, (49 + y % 9) :: ds, rfl, by simpa using hb, .inr ⟨_, _, rfl, by omega, by omega, hds⟩, by omega⟩
          case rest =>
            clear hb v1
            obtain ⟨ad, n, cap, wh, rfl, hb, hwh, hn⟩ := hcut
            go_upto_if 102 with fail
            go_cut [20] (fun s wc => ∃ (ad : Option Addr) (n cap : Nat) (fr : List Int), s = .slice ad n cap ∧ Bt w wc ad n cap (sg ++ wh ++ fr) ∧ Fr fr ∧ n ≤ 524292)
            case first =>
              cases x2
              · go_wp2_with fail
                go_meet
                case rel => exact ⟨ad, n, cap, [], rfl, by simpa using hb, .inl rfl, by omega⟩
              · go_wp2_with (first
                  | (at_builtin; refine wpList_push (w0 := w) rfl (.tmp 103) (.tmp 104) rfl _ _ _ _ hb rfl 1 [46] rfl rfl (by omega) _ _ rfl rfl ?_; intro ad1 cap1 w1 hb1)
                  | (go_at_call 19; refine (run_any hb1 v3 (by omega) (by omega)).mono ?_; rintro e w' ⟨ad2, n2, cap2, ds, rfl, hb2, hne, hds, hn2⟩))
                go_meet
                case rel => exact ⟨_, _, _, 46 :: ds, rfl, by simpa using hb2, .inr ⟨ds, rfl, hne, hds⟩, by omega⟩
            case rest =>
              clear hb v3
              obtain ⟨ad, n, cap, fr, rfl, hb, hfr, hn⟩ := hcut
              go_upto_if 109 with fail
              go_cut [20] (fun s wc => ∃ (ad : Option Addr) (n cap : Nat) (ex : List Int), s = .slice ad n cap ∧ Bt w wc ad n cap (sg ++ wh ++ fr ++ ex) ∧ Ex ex ∧ n ≤ 786440)
              case first =>
                cases x4
                · go_wp2_with fail
                  go_meet
                  case rel => exact ⟨ad, n, cap, [], rfl, by simpa using hb, .inl rfl, by omega⟩
                · go_upto_if 110 with fail
                  go_cut [20] (fun s wc => ∃ (ad : Option Addr) (cap : Nat) (ch : Int), s = .slice ad (n + 1) cap ∧ Bt w wc ad (n + 1) cap (sg ++ wh ++ fr ++ [ch]) ∧ (ch = 101 ∨ ch = 69))
                  case first =>
                    cases x5
                    · go_wp2_with (at_builtin; go_must (refine wpList_push (w0 := w) rfl (.tmp 114) (.tmp 115) rfl _ _ _ _ hb rfl 1 [101] rfl rfl (by omega) _ _ rfl rfl ?_); intro ad1 cap1 w1 hb1)
                      go_meet
                      case rel => exact ⟨_, _, 101, rfl, hb1, .inl rfl⟩
                    · go_wp2_with (at_builtin; go_must (refine wpList_push (w0 := w) rfl (.tmp 111) (.tmp 112) rfl _ _ _ _ hb rfl 1 [69] rfl rfl (by omega) _ _ rfl rfl ?_); intro ad1 cap1 w1 hb1)
                      go_meet
                      case rel => exact ⟨_, _, 69, rfl, hb1, .inr rfl⟩
                  case rest =>
                    clear hb
                    obtain ⟨ad, cap, ch, rfl, hb, hch⟩ := hcut
                    have HCH : Hid (ch = 101 ∨ ch = 69) := hch
                    clear hch
                    rcases (show x6 % 3 = 0 ∨ x6 % 3 = 1 ∨ x6 % 3 = 2 by omega) with hs | hs | hs
                    · have q1 : (x6 % 3 == 1) = false := by simp [hs]
                      have q2 : (x6 % 3 == 2) = false := by simp [hs]
                      clear hs
                      go_wp2_with (first
                        | (go_at_call 19; refine (run_any hb v7 (by omega) (by omega)).mono ?_; rintro e w' ⟨ad2, n2, cap2, ds, rfl, hb2, hne, hds, hn2⟩))
                      go_meet
                      case rel => exact ⟨_, _, _, ch :: ([] ++ ds), rfl, by simpa using hb2, .inr ⟨ch, [], ds, rfl, HCH.out, .inl rfl, hne, hds⟩, by omega⟩
                    · have q1 : (x6 % 3 == 1) = true := by simp [hs]
                      clear hs
                      go_wp2_with (first
                        | (at_builtin; refine wpList_push (w0 := w) rfl (.tmp 121) (.tmp 122) rfl _ _ _ _ hb rfl 1 [43] rfl rfl (by omega) _ _ rfl rfl ?_; intro ad3 cap3 w3 hb3)
                        | (go_at_call 19; refine (run_any hb3 v7 (by omega) (by omega)).mono ?_; rintro e w' ⟨ad2, n2, cap2, ds, rfl, hb2, hne, hds, hn2⟩))
                      go_meet
                      case rel => exact ⟨_, _, _, ch :: ([43] ++ ds), rfl, by simpa using hb2, .inr ⟨ch, [43], ds, rfl, HCH.out, .inr (.inl rfl), hne, hds⟩, by omega⟩
                    · have q1 : (x6 % 3 == 1) = false := by simp [hs]
                      have q2 : (x6 % 3 == 2) = true := by simp [hs]
                      clear hs
                      go_wp2_with (first
                        | (at_builtin; refine wpList_push (w0 := w) rfl (.tmp 126) (.tmp 127) rfl _ _ _ _ hb rfl 1 [45] rfl rfl (by omega) _ _ rfl rfl ?_; intro ad3 cap3 w3 hb3)
                        | (go_at_call 19; refine (run_any hb3 v7 (by omega) (by omega)).mono ?_; rintro e w' ⟨ad2, n2, cap2, ds, rfl, hb2, hne, hds, hn2⟩))
                      go_meet
                      case rel => exact ⟨_, _, _, ch :: ([45] ++ ds), rfl, by simpa using hb2, .inr ⟨ch, [45], ds, rfl, HCH.out, .inr (.inr rfl), hne, hds⟩, by omega⟩
              case rest =>
                clear hb v7
                obtain ⟨ad, n, cap, ex, rfl, hb, hex, hn⟩ := hcut
                have HE : Hid (num (sg ++ wh ++ fr ++ ex ++ y8) 0 = (n, true)) := by have := num_app hsg hwh hfr hex hT; rw [hb.len] at this; exact this
                clear hsg hwh hfr hex hT
                generalize sg ++ wh ++ fr ++ ex = zs at hb HE
                go_wp2_with fail
                go_loopw [20, 23] (fun t i wr => ∃ (k : Nat) (ad' : Option Addr) (cap' : Nat), k ≤ l8 ∧ i = .int .i64 k ∧ t = .slice ad' (n + k) cap' ∧ Bt w wr ad' (n + k) cap' (zs ++ y8.take k)) (fun _ i _ => l8 - (intOf i).toNat)
                case atStart => exact ⟨0, ad, cap, by omega, rfl, rfl, by simpa using hb⟩
                case round =>
                  clear hb
                  obtain ⟨k, ad', cap', hk, rfl, rfl, hb⟩ := hrel
                  by_cases hlt : k < l8
                  · obtain ⟨b, off, rfl, _, hc⟩ := (v8.carry hb.bel).at_ (by omega)
                    have hx := hc k hlt
                    have HT : Hid (y8.take (k + 1) = y8.take k ++ [y8.getD k 0]) := by
                      have := v8.len
                      unfold Hid
                      rw [List.take_succ_eq_append_getElem (by omega), List.getD_eq_getElem?_getD, List.getElem?_eq_getElem (by omega)]; rfl
                    generalize y8.getD k 0 = x at hx HT
                    clear hc
                    go_wp2_with (at_builtin; go_must (refine wpList_push (w0 := w) rfl (.tmp 140) (.tmp 145) rfl _ _ _ _ hb rfl 1 [_] rfl rfl (by omega) (n + (k + 1)) _ rfl rfl ?_); intro ad2 cap2 w2 hb2)
                    go_roundw
                    case rel => exact ⟨k + 1, ad2, cap2, by omega, by go_num, rfl, by rw [HT.out, ← List.append_assoc]; exact hb2⟩
                    case measure => simp [intOf]; omega
                  · obtain rfl : k = l8 := by omega
                    have e : y8.take k = y8 := List.take_of_length_le (by have := v8.len; omega)
                    rw [e] at hb
                    clear e
                    go_wp2_with fail
                    obtain ⟨g, ht, hg⟩ := hb.txt (by omega)
                    refine (zznum_any (i := 0) ht hg (by omega)).mono ?_
                    rw [HE.out]
                    rintro e' w6 ⟨rfl, hb6⟩
                    have HB : Hid (Below w.heap.size w w6) := hb.bel.trans (hb6.mono hb.bel.size)
                    clear hb6 ht hg hb
                    go_wp2
                    go_ret
                    exact ⟨rfl, HB.out⟩
    · clear v1 v3 v7 v8
      go_enter Try.func5, Try.ntmps5
      go_wp2_with (go_at_call 17; refine (zzb17 _ _ _ _ _ _ _ _ _ _ _ _ _ _ _ _ _ _ m1 m3 m7 m8).mono ?_; rintro e w' ⟨rfl, hw⟩; subst w'; rw [ok])
      all_goals
        go_ret
        exact ⟨rfl, Below.refl _ _⟩
  · have ok : okLen (l1 + l3 + l7 + l8) = false := by simp [okLen, hok]
    clear v1 v3 v7 v8
    go_enter Try.func5, Try.ntmps5
    go_wp2_with (go_at_call 17; refine (zzb17 _ _ _ _ _ _ _ _ _ _ _ _ _ _ _ _ _ _ m1 m3 m7 m8).mono ?_; rintro e w' ⟨rfl, hw⟩; subst w'; rw [ok])
    go_ret
    exact ⟨rfl, Below.refl _ _⟩

end Go.Proofs.Qxb6600868a
