import Derived.Test.Qxb6600868aOpen
import Derived.Test.Qxb6600868aPlainStray
import Derived.Laws.BitsAllLaws
namespace Go.Proofs.Qxb6600868a
open Go.RowKit Pl

set_option maxHeartbeats 400000 in
theorem zzb35 (a0 : Option Addr) (l0 c0 : Nat) (a1 : Option Addr) (l1 c1 : Nat) (a2 : Option Addr) (l2 c2 : Nat) (w : World) (h0 : l0 ≤ maxLen) (h1 : l1 ≤ maxLen) (h2 : l2 ≤ maxLen) :
    Calls Try.prog 35 #[.slice a0 l0 c0, .slice a1 l1 c1, .slice a2 l2 c2] w fun e w' => e = .returned (.bool (okLen (l0 + l1 + l2))) ∧ w' = w := by
  unfold maxLen at h0 h1 h2
  by_cases h : l0 + l1 + l2 ≤ 1048576
  · have g1 : ¬ (1048576 : Int) < (l0 : Int) := by omega
    have g2 : ¬ (1048576 : Int) < (l1 : Int) := by omega
    have g3 : ¬ (1048576 : Int) < (l2 : Int) := by omega
    have g4 : ¬ (1048576 : Int) < (l0 : Int) + (l1 : Int) := by omega
    have g5 : ¬ (1048576 : Int) < (l0 : Int) + (l1 : Int) + (l2 : Int) := by omega
    go_enter Try.func35, Try.ntmps35
    go_wp2
    go_ret
    exact ⟨ret_bool (by simp [okLen, h]), rfl⟩
  · go_enter Try.func35, Try.ntmps35
    go_wp2
    all_goals
      go_ret
      exact ⟨ret_bool (by simp [okLen, h]), rfl⟩

theorem kind_any (x : Int) (w : World) : Calls Try.prog 36 #[.int .u8 x] w fun e w' => ∃ y : Int, e = .returned (.int .u8 y) ∧ isSp y = true ∧ w' = w := by
  go_enter Try.func36, Try.ntmps36
  go_wp2
  all_goals
    go_ret
    exact ⟨_, rfl, rfl, rfl⟩

set_option maxRecDepth 100000 in
set_option maxHeartbeats 4000000 in
theorem stray_walk (a0 : Option Addr) (l0 c0 : Nat) (z0 : List Int) (a1 : Option Addr) (l1 c1 : Nat) (z1 : List Int) (a2 : Option Addr) (l2 c2 : Nat) (z2 : List Int) (w : World) (w0 : Row8 w a0 l0 c0 z0) (w1 : Row8 w a1 l1 c1 z1) (w2 : Row8 w a2 l2 c2 z2) :
    Calls Try.prog 10 #[.slice a0 l0 c0, .slice a1 l1 c1, .slice a2 l2 c2] w fun e w' => e = .returned (.bool true) ∧ Below w.heap.size w w' := by
  have v0 := w0.look
  have v1 := w1.look
  have v2 := w2.look
  have m0 := w0.view.2.1
  have m1 := w1.view.2.1
  have m2 := w2.view.2.1
  generalize z0.take l0 = op at v0
  generalize z1.take l1 = ld at v1
  generalize z2.take l2 = rs at v2
  clear w0 w1 w2
  by_cases hok : l0 + l1 + l2 ≤ 1048576
  · have ok : okLen (l0 + l1 + l2) = true := by simp [okLen, hok]
    by_cases hB : l0 ≤ 262144 ∧ l1 ≤ 262144 ∧ l2 ≤ 262144
    · obtain ⟨k0, k1, k2⟩ := hB
      have g0 : ¬ (262144 : Int) < (l0 : Int) := by omega
      have g1 : ¬ (262144 : Int) < (l1 : Int) := by omega
      have g2 : ¬ (262144 : Int) < (l2 : Int) := by omega
      by_cases hz : l0 = 0
      · have hz' : ((l0 : Int) == 0) = true := by simpa using hz
        clear hz
        go_enter Try.func10, Try.ntmps10
        go_wp2_with (go_at_call 35; refine (zzb35 _ _ _ _ _ _ _ _ _ _ m0 m1 m2).mono ?_; rintro e w' ⟨rfl, hw⟩; subst w'; rw [ok])
        go_ret
        exact ⟨rfl, Below.refl _ _⟩
      · have hz' : ((l0 : Int) == 0) = false := by simpa using hz
        cases hV : validB op
        · go_enter Try.func10, Try.ntmps10
          go_wp2_with (first
            | (go_at_call 35; refine (zzb35 _ _ _ _ _ _ _ _ _ _ m0 m1 m2).mono ?_; rintro e w' ⟨rfl, hw⟩; subst w'; rw [ok])
            | (go_at_call 28; refine (valid_any v0 (by omega)).mono ?_; rw [hV]; rintro e w' ⟨rfl, hw⟩; subst w'))
          go_ret
          exact ⟨rfl, Below.refl _ _⟩
        · obtain ⟨m, hm⟩ : ∃ m, l0 = m + 1 := ⟨l0 - 1, by omega⟩
          have hm1 : m = l0 - 1 := by omega
          subst hm1
          clear hm
          have hp1 : (1 : Int) ≤ (l0 : Int) := by omega
          have hp2 : 1 ≤ l0 := by omega
          clear hz
          go_enter Try.func10, Try.ntmps10
          go_upto_if 40 with (first
            | (go_at_call 35; refine (zzb35 _ _ _ _ _ _ _ _ _ _ m0 m1 m2).mono ?_; rintro e w' ⟨rfl, hw⟩; subst w'; rw [ok])
            | (go_at_call 28; refine (valid_any v0 (by omega)).mono ?_; rw [hV]; rintro e w' ⟨rfl, hw⟩; subst w'))
          go_cut [] (fun wc => wc = w ∧ Stray (op.getD (l0 - 1) 0) rs)
          case first =>
            by_cases h0 : 0 < l2
            · obtain ⟨b, off, rfl, _, hc⟩ := v2.at_ h0
              have hx := hc 0 h0
              simp only [Nat.add_zero] at hx
              have HY : Hid (∃ t, rs = rs.getD 0 0 :: t) := ⟨rs.drop 1, by have := drop_cons (zs := rs) (j := 0) (by have := v2.len; omega); simpa using this⟩
              generalize rs.getD 0 0 = x at hx HY
              clear hc
              obtain ⟨b', off', rfl, _, hc'⟩ := v0.at_ (by omega)
              have ho := hc' (l0 - 1) (by omega)
              obtain ⟨o, hoe⟩ : ∃ o, o = op.getD (l0 - 1) 0 := ⟨_, rfl⟩
              rw [← hoe] at ho
              have HOE : Hid (o = op.getD (l0 - 1) 0) := hoe
              clear hoe
              clear hc'
              have h0' : (0 : Int) < (l2 : Int) := by omega
              cases hd : isSp x
              · cases h44 : (x == 44)
                · cases hcl : (x == closer o)
                  · go_wp2_with (first
                      | (go_at_call 29; refine (nxSp_any _ _).mono ?_; rintro e w' ⟨rfl, hw⟩; subst w')
                      | (go_at_call 32; refine (nxClose_any _ _).mono ?_; rintro e w' ⟨rfl, hw⟩; subst w'))
                    go_meet
                    case rel =>
                      refine ⟨rfl, fun y l e => ?_⟩
                      obtain ⟨t, ht⟩ := HY.out
                      rw [ht] at e
                      obtain ⟨rfl, _⟩ := List.cons.inj e
                      exact ⟨hd, by simpa using h44, by rw [← HOE.out]; simpa using hcl⟩
                  · go_wp2_with (first
                      | (go_at_call 29; refine (nxSp_any _ _).mono ?_; rintro e w' ⟨rfl, hw⟩; subst w')
                      | (go_at_call 32; refine (nxClose_any _ _).mono ?_; rintro e w' ⟨rfl, hw⟩; subst w'))
                    go_ret
                    exact ⟨rfl, Below.refl _ _⟩
                · go_wp2_with (go_at_call 29; refine (nxSp_any _ _).mono ?_; rintro e w' ⟨rfl, hw⟩; subst w')
                  go_ret
                  exact ⟨rfl, Below.refl _ _⟩
              · go_wp2_with (go_at_call 29; refine (nxSp_any _ _).mono ?_; rintro e w' ⟨rfl, hw⟩; subst w')
                go_ret
                exact ⟨rfl, Below.refl _ _⟩
            · have h0' : ¬ (0 : Int) < (l2 : Int) := by omega
              go_wp2_with fail
              go_meet
              case rel =>
                refine ⟨rfl, fun x l e => ?_⟩
                have := v2.len; rw [e] at this; simp at this; omega
          case rest =>
            obtain ⟨hw, hT⟩ := hcut
            subst wc
            go_wp2_with (go_at_call 30; refine (copy_any v0 (by omega)).mono ?_; rintro e wO ⟨ao, go, capo, rfl, hO⟩)
            have v1O := v1.carry hO.bel
            have v2O := v2.carry hO.bel
            have hst := Bt.start wO
            clear v0 v1 v2
            go_loopw [8, 9] (fun t i wr => ∃ (k : Nat) (ad : Option Addr) (cap : Nat) (ws : List Int), k ≤ l1 ∧ i = .int .i64 k ∧ t = .slice ad k cap ∧ Bt wO wr ad k cap ws ∧ AllSp ws) (fun _ i _ => l1 - (intOf i).toNat)
            case atStart => exact ⟨0, none, 0, [], by omega, rfl, rfl, hst, fun x hx => by simp at hx⟩
            case round =>
              clear hst
              obtain ⟨k, ad, cap, ws, hk, rfl, rfl, hb, hws⟩ := hrel
              by_cases hlt : k < l1
              · obtain ⟨b, off, rfl, _, hc⟩ := (v1O.carry hb.bel).at_ (by omega)
                have hx := hc k hlt
                generalize ld.getD k 0 = x at hx
                clear hc
                go_wp2_with (first
                  | (go_at_call 36; refine (kind_any _ _).mono ?_; rintro e w' ⟨y, rfl, hy, hw⟩; subst w')
                  | (at_builtin; refine wpList_push (w0 := wO) rfl (.tmp 69) (.tmp 75) rfl _ _ _ _ hb rfl 1 [_] rfl rfl (by omega) (k + 1) _ rfl rfl ?_; intro ad2 cap2 w2 hb2))
                go_roundw
                case rel => exact ⟨k + 1, ad2, cap2, _, by omega, by go_num, rfl, hb2, allSp_snoc hws hy⟩
                case measure => simp [intOf]; omega
              · obtain rfl : k = l1 := by omega
                have hk1 : ¬ (k : Int) < (k : Int) := by omega
                have hv2 := v2O.carry hb.bel
                have hN := next_stray (m := l0 - 1) hws hT
                rw [hb.len, show l0 - 1 + 1 = l0 by omega] at hN
                have HN : Hid (nextF (ws ++ rs) op l0 0 false = ⟨l0, k, false, decide (0 < k)⟩) := hN
                clear hN hT
                go_wp2_with (at_builtin; go_must (refine wpList_appView (w0 := wO) rfl (.tmp 79) (.tmp 80) rfl _ _ _ _ hb rfl a2 l2 c2 rs rfl hv2 (by omega) (k + l2) _ (by omega) rfl ?_); intro ad5 cap5 w5 hb5)
                obtain ⟨g, ht, hg⟩ := hb5.txt (by omega)
                have ho5 := hO.txt.carry hb5.bel hO.lt
                have hl5 : 0 < l0 → go < w5.heap.size := fun h => Nat.lt_of_lt_of_le (hO.lt h) hb5.bel.size
                refine (zznext_any (i := 0) ht hg (by omega) ho5 hl5 hO.cap).mono ?_
                rw [HN.out]
                rintro e' w6 ⟨rfl, hb6⟩
                have HO6 := ho5.carry hb6 hl5
                have HB : Hid (Below w.heap.size w w6) := hO.bel.trans ((hb5.bel.trans (hb6.mono hb5.bel.size)).mono hO.bel.size)
                clear hb6 ht hg hb5 hb ho5 hl5 hv2 HN hO v1O v2O
                go_wp2_with fail
                go_loopw [15] (fun t wr => ∃ x m : Nat, x ≤ l0 ∧ t = .int .i64 x ∧ wr = w6.drewN m) (fun t _ => l0 - (intOf t).toNat)
                case atStart => exact ⟨0, 0, by omega, rfl, rfl⟩
                case round =>
                  obtain ⟨x, m, hx0, rfl, rfl⟩ := hrel
                  by_cases hxl : x < l0
                  · have hc := HO6.cell x hxl
                    obtain rfl := HO6.addr (by omega)
                    generalize op.getD x 0 = y at hc
                    have hx1 : (x : Int) < (l0 : Int) := by omega
                    go_wp2
                    go_quiet (fail)
                    go_wp2
                    go_roundw
                    case rel => exact ⟨x + 1, _, by omega, by go_num, rfl⟩
                    case measure => simp [intOf]; omega
                  · have hx1 : ¬ (x : Int) < (l0 : Int) := by omega
                    go_wp2_with fail
                    go_ret
                    exact ⟨rfl, HB.out.trans (below_drewN _)⟩
    · go_enter Try.func10, Try.ntmps10
      go_wp2_with (go_at_call 35; refine (zzb35 _ _ _ _ _ _ _ _ _ _ m0 m1 m2).mono ?_; rintro e w' ⟨rfl, hw⟩; subst w'; rw [ok])
      all_goals
        go_ret
        exact ⟨rfl, Below.refl _ _⟩
  · have ok : okLen (l0 + l1 + l2) = false := by simp [okLen, hok]
    go_enter Try.func10, Try.ntmps10
    go_wp2_with (go_at_call 35; refine (zzb35 _ _ _ _ _ _ _ _ _ _ m0 m1 m2).mono ?_; rintro e w' ⟨rfl, hw⟩; subst w'; rw [ok])
    go_ret
    exact ⟨rfl, Below.refl _ _⟩

end Go.Proofs.Qxb6600868a
