import Derived.Test.Qxb6600868aQuote
import Derived.Test.Qxb6600868aPlainBuilt
namespace Go.Proofs.Qxb6600868a
open Go.RowKit Pl

set_option maxHeartbeats 1000000 in
theorem zzb27 (a0 : Option Addr) (l0 c0 : Nat) (x1 : Int) (a2 : Option Addr) (l2 c2 : Nat) (a3 : Option Addr) (l3 c3 : Nat) (a4 : Option Addr) (l4 c4 : Nat) (a5 : Option Addr) (l5 c5 : Nat) (w : World)
    (h0 : l0 ≤ maxLen) (h2 : l2 ≤ maxLen) (h3 : l3 ≤ maxLen) (h4 : l4 ≤ maxLen) (h5 : l5 ≤ maxLen) :
    Calls Try.prog 27 #[.slice a0 l0 c0, .int .i64 x1, .slice a2 l2 c2, .slice a3 l3 c3, .slice a4 l4 c4, .slice a5 l5 c5] w fun e w' => e = .returned (.bool (okLen (l0 + l2 + l3 + l4 + l5))) ∧ w' = w := by
  unfold maxLen at h0 h2 h3 h4 h5
  by_cases h : l0 + l2 + l3 + l4 + l5 ≤ 1048576
  · have g0 : ¬ (1048576 : Int) < (l0 : Int) := by omega
    have g2 : ¬ (1048576 : Int) < (l2 : Int) := by omega
    have g3 : ¬ (1048576 : Int) < (l3 : Int) := by omega
    have g4 : ¬ (1048576 : Int) < (l4 : Int) := by omega
    have g5 : ¬ (1048576 : Int) < (l5 : Int) := by omega
    have k2 : ¬ (1048576 : Int) < (l0 : Int) + (l2 : Int) := by omega
    have k3 : ¬ (1048576 : Int) < (l0 : Int) + (l2 : Int) + (l3 : Int) := by omega
    have k4 : ¬ (1048576 : Int) < (l0 : Int) + (l2 : Int) + (l3 : Int) + (l4 : Int) := by omega
    have k5 : ¬ (1048576 : Int) < (l0 : Int) + (l2 : Int) + (l3 : Int) + (l4 : Int) + (l5 : Int) := by omega
    go_enter Try.func27, Try.ntmps27
    go_wp2
    go_ret
    exact ⟨ret_bool (by simp [okLen, h]), rfl⟩
  · go_enter Try.func27, Try.ntmps27
    go_wp2
    all_goals
      go_ret
      exact ⟨ret_bool (by simp [okLen, h]), rfl⟩

def headSp : List Int → Bool
  | [] => false
  | x :: _ => isSp x
theorem headSp_no {t : List Int} (h : headSp t = false) : NoSp t := by
  cases t with
  | nil => intro x l e; cases e
  | cons x l => exact noSp_cons h
theorem headSp_cons {t : List Int} (h : 0 < t.length) : headSp t = isSp (t.getD 0 0) := by
  cases t with
  | nil => simp at h
  | cons x l => rfl

/-- Where the building stands: the text P and the last gap g; next, having read P, has m open. -/
structure NxAt (wO wr : World) (ad : Option Addr) (n cap : Nat) (op : List Int) (l0 m : Nat) (P g : List Int) (s : Bool) (p l2 x : Nat) : Prop where
  bt : Bt wO wr ad n cap (P ++ g)
  rch : Rch op l0 m P g s
  le : p ≤ l2
  few : n ≤ p + x

/-- The text is built: next reads it whole. -/
structure Fin (wO wr : World) (ad : Option Addr) (n cap : Nat) (op : List Int) (l0 L : Nat) (Z : List Int) (sp : Bool) : Prop where
  bt : Bt wO wr ad n cap Z
  few : n ≤ 1500000
  eq : ∀ t, NoSp t → nextF (Z ++ t) op l0 0 false = ⟨L, n, true, sp⟩

set_option maxRecDepth 100000 in
set_option maxHeartbeats 8000000 in
theorem built_walk (a0 : Option Addr) (l0 c0 : Nat) (z0 : List Int) (a1 : Int) (a2 : Option Addr) (l2 c2 : Nat) (z2 : List Int) (a3 : Option Addr) (l3 c3 : Nat) (z3 : List Int) (a4 : Option Addr) (l4 c4 : Nat) (z4 : List Int) (a5 : Option Addr) (l5 c5 : Nat) (z5 : List Int) (w : World)
    (w0 : Row8 w a0 l0 c0 z0) (w2 : Row8 w a2 l2 c2 z2) (w3 : Row8 w a3 l3 c3 z3) (w4 : Row8 w a4 l4 c4 z4) (w5 : Row8 w a5 l5 c5 z5) :
    Calls Try.prog 9 #[.slice a0 l0 c0, .int .i64 a1, .slice a2 l2 c2, .slice a3 l3 c3, .slice a4 l4 c4, .slice a5 l5 c5] w fun e w' => e = .returned (.bool true) ∧ Below w.heap.size w w' := by
  have v0 := w0.look
  have v2 := w2.look
  have v3 := w3.look
  have v4 := w4.look
  have v5 := w5.look
  have m0 := w0.view.2.1
  have m2 := w2.view.2.1
  have m3 := w3.view.2.1
  have m4 := w4.view.2.1
  have m5 := w5.view.2.1
  generalize z0.take l0 = op at v0
  generalize z2.take l2 = y2 at v2
  generalize z3.take l3 = y3 at v3
  generalize z4.take l4 = y4 at v4
  generalize z5.take l5 = ts at v5
  clear w0 w2 w3 w4 w5
  by_cases hok : l0 + l2 + l3 + l4 + l5 ≤ 1048576
  · have ok : okLen (l0 + l2 + l3 + l4 + l5) = true := by simp [okLen, hok]
    by_cases hB : l0 ≤ 131072 ∧ l2 ≤ 131072 ∧ l3 ≤ 131072 ∧ l4 ≤ 131072 ∧ l5 ≤ 131072 ∧ 0 ≤ a1 ∧ a1 ≤ l0
    · obtain ⟨k0, k2, k3, k4, k5, hr0, hr1⟩ := hB
      obtain ⟨k, rfl⟩ : ∃ i : Nat, a1 = i := ⟨a1.toNat, by omega⟩
      have hk : k ≤ l0 := by omega
      have g0 : ¬ (131072 : Int) < (l0 : Int) := by omega
      have g2 : ¬ (131072 : Int) < (l2 : Int) := by omega
      have g3 : ¬ (131072 : Int) < (l3 : Int) := by omega
      have g4 : ¬ (131072 : Int) < (l4 : Int) := by omega
      have g5 : ¬ (131072 : Int) < (l5 : Int) := by omega
      cases hV : validB op
      · as_aux_lemma =>
          go_enter Try.func9, Try.ntmps9
          go_wp2_with (first
            | (go_at_call 27; refine (zzb27 _ _ _ _ _ _ _ _ _ _ _ _ _ _ _ _ _ m0 m2 m3 m4 m5).mono ?_; rintro e w' ⟨rfl, hw⟩; subst w'; rw [ok])
            | (go_at_call 28; refine (valid_any v0 (by omega)).mono ?_; rw [hV]; rintro e w' ⟨rfl, hw⟩; subst w'))
          go_ret
          exact ⟨rfl, Below.refl _ _⟩
      · go_enter Try.func9, Try.ntmps9
        go_upto_region 17 with (first
          | (go_at_call 27; refine (zzb27 _ _ _ _ _ _ _ _ _ _ _ _ _ _ _ _ _ m0 m2 m3 m4 m5).mono ?_; rintro e w' ⟨rfl, hw⟩; subst w'; rw [ok])
          | (go_at_call 28; refine (valid_any v0 (by omega)).mono ?_; rw [hV]; rintro e w' ⟨rfl, hw⟩; subst w'))
        go_cut [66] (fun s wc => s = .bool (headSp ts) ∧ wc = w)
        case first =>
          by_cases h0 : 0 < l5
          · obtain ⟨b, off, rfl, _, hc⟩ := v5.at_ h0
            have hx := hc 0 h0
            simp only [Nat.add_zero] at hx
            have HS : Hid (headSp ts = isSp (ts.getD 0 0)) := headSp_cons (by rw [v5.len]; exact h0)
            generalize ts.getD 0 0 = x at hx HS
            clear hc
            have h0' : (0 : Int) < (l5 : Int) := by omega
            go_wp2_with (go_at_call 29; refine (nxSp_any _ _).mono ?_; rintro e w' ⟨rfl, hw⟩; subst w')
            go_meet
            case rel => exact ⟨by rw [HS.out], rfl⟩
          · have h0' : ¬ (0 : Int) < (l5 : Int) := by omega
            have HS : Hid (headSp ts = false) := by
              obtain rfl : ts = [] := List.eq_nil_of_length_eq_zero (by have := v5.len; omega)
              rfl
            go_wp2_with fail
            go_meet
            case rel => exact ⟨by rw [HS.out], rfl⟩
        case rest =>
          obtain ⟨rfl, hw⟩ := hcut
          subst wc
          cases hT : headSp ts
          · have hTs := headSp_no hT
            have HTs : Hid (NoSp ts) := hTs
            clear hTs
            go_upto_region 25 with (first
              | (go_at_call 30; refine (copy_any v0 (by omega)).mono ?_; rintro e wO ⟨ao, go, capo, rfl, hO⟩)
              | (go_at_call 31; refine (gap_any (p := 0) (Bt.start wO) (v2.carry hO.bel) (Nat.zero_le _) (by omega) (by omega)).mono ?_; rintro e wG ⟨ad1, n1, cap1, p1, gs, rfl, hG⟩))
            have v2O := v2.carry hO.bel
            have v3O := v3.carry hO.bel
            have v4O := v4.carry hO.bel
            have v5O := v5.carry hO.bel
            have hst : NxAt wO wG ad1 n1 cap1 op l0 l0 [] gs false p1 l2 0 :=
              ⟨by simpa using hG.bt, Rch.start hG.sp, hG.le, by have h1 := hG.bt.len; have h2 := hG.few; simp at h1; omega⟩
            have HV : Hid (validB op = true) := hV
            clear hV hG v0 v2 v3 v4 v5
            go_wp2_with fail
            go_loopg [13, 14, 15, 17] k (fun mm t q s i wr => ∃ (x : Nat) (ad : Option Addr) (n cap : Nat) (P g : List Int) (s0 : Bool) (p : Nat), mm = k - x ∧ x ≤ k ∧ t = .slice ad n cap ∧ q = .int .i64 p ∧ s = .bool (s0 || decide (0 < g.length)) ∧ i = .int .i64 x ∧ NxAt wO wr ad n cap op l0 (l0 - x) P g s0 p l2 x)
            case atStart => exact ⟨0, ad1, n1, cap1, [], gs, false, p1, rfl, by omega, rfl, rfl, rfl, rfl, hst⟩
            case round =>
              clear hst
              obtain ⟨x, ad, n, cap, P, g, s0, p, hmm, hxk, rfl, rfl, rfl, rfl, hN⟩ := hrel
              have hpl := hN.le
              have hfew := hN.few
              obtain ⟨sv, hsv⟩ : ∃ sv, sv = (s0 || decide (0 < g.length)) := ⟨_, rfl⟩
              rw [← hsv]
              have HSV : Hid (sv = (s0 || decide (0 < g.length))) := hsv
              have HMM : Hid (gk = k - x) := hmm
              clear hsv hmm
              have hNb := hN.bt
              by_cases hlt : x < k
              · as_aux_lemma =>
                  have hc := (hO.txt.carry hNb.bel hO.lt).cell (l0 - 1 - x) (by omega)
                  obtain rfl := hO.txt.addr (by omega)
                  obtain ⟨o, ho⟩ : ∃ o, o = op.getD (l0 - 1 - x) 0 := ⟨_, rfl⟩
                  rw [← ho] at hc
                  have HO : Hid (o = op.getD (l0 - 1 - x) 0) := ho
                  clear ho
                  have hlt' : (x : Int) < (k : Int) := by omega
                  have hix : (0 : Int) ≤ (l0 : Int) - 1 - (x : Int) := by omega
                  go_upto_region 31 with (first
                    | (go_at_call 32; refine (nxClose_any _ _).mono ?_; rintro e w' ⟨rfl, hw⟩; subst w')
                    | (at_builtin; refine wpList_push (w0 := wO) rfl (.tmp 86) (.tmp 96) rfl _ _ _ _ hNb rfl 1 [closer o] rfl rfl (by omega) (n + 1) _ rfl rfl ?_; intro ad2 cap2 w2 hb2)
                    | (go_at_call 31; refine (gap_any hb2 v2O hpl (by omega) (by omega)).mono ?_; rintro e wG2 ⟨ad3, n3, cap3, p3, g3, rfl, hG3⟩))
                  have hR := hN.rch
                  rw [show l0 - x = l0 - 1 - x + 1 by omega] at hR
                  have hR2 := hR.close hG3.sp
                  rw [← HO.out, ← HSV.out] at hR2
                  have h31 := hG3.bt.len
                  have h32 := hb2.len
                  have h33 := hG3.few
                  simp only [List.length_append] at h31 h32
                  have hN2 : NxAt wO wG2 ad3 n3 cap3 op l0 (l0 - (x + 1)) (P ++ g ++ [closer o]) g3 sv p3 l2 (x + 1) :=
                    ⟨hG3.bt, by rw [show l0 - (x + 1) = l0 - 1 - x by omega]; exact hR2, hG3.le, by omega⟩
                  clear hR hR2 hN hNb hb2 hG3 h31 h32 h33
                  cases sv
                  · go_wp2_with fail
                    go_roundg (k - (x + 1))
                    case measure => have := HMM.out; omega
                    case rel => exact ⟨x + 1, ad3, n3, cap3, P ++ g ++ [closer o], g3, false, p3, rfl, by omega, rfl, rfl, rfl, by go_num, hN2⟩
                  · go_wp2_with fail
                    go_roundg (k - (x + 1))
                    case measure => have := HMM.out; omega
                    case rel => exact ⟨x + 1, ad3, n3, cap3, P ++ g ++ [closer o], g3, true, p3, rfl, by omega, rfl, rfl, rfl, by go_num, hN2⟩
              · obtain rfl : x = k := by omega
                have hlt' : ¬ (x : Int) < (x : Int) := by omega
                go_upto_if 113 with fail
                go_cut [13, 15] (fun t s wc => ∃ (ad : Option Addr) (n cap : Nat) (Z : List Int) (sp : Bool), t = .slice ad n cap ∧ s = .bool sp ∧ Fin wO wc ad n cap op l0 (l0 - x) Z sp)
                case first =>
                  by_cases hkl : x < l0
                  · have hkl' : (x : Int) < (l0 : Int) := by omega
                    have hix : (0 : Int) ≤ (l0 : Int) - 1 - (x : Int) := by omega
                    have hR := hN.rch
                    rw [show l0 - x = l0 - 1 - x + 1 by omega] at hR
                    have HR : Hid _ := hR
                    clear hR hN
                    obtain rfl := hO.txt.addr (by omega)
                    have hVo := validB_at HV.out (j := l0 - 1 - x) (by rw [hO.txt.len]; omega)
                    go_upto_region 35 with (first
                      | (at_builtin; refine wpList_push (w0 := wO) rfl (.tmp 114) (.tmp 115) rfl _ _ _ _ hNb rfl 1 [44] rfl rfl (by omega) (n + 1) _ rfl rfl ?_; intro ad2 cap2 w2 hb2)
                      | (go_at_call 31; refine (gap_any hb2 v2O hpl (by omega) (by omega)).mono ?_; rintro e wG2 ⟨ad3, n3, cap3, p3, g2, rfl, hG2⟩))
                    have n2 := hb2.len
                    have n3' := hG2.bt.len
                    have f3 := hG2.few
                    have hG2b := hG2.bt
                    have hG2l := hG2.le
                    have HG2s : Hid (AllSp g2) := hG2.sp
                    have N3 : n3 ≤ p3 + x + 1 := by simp only [List.length_append] at n2 n3'; omega
                    clear hb2 hNb hG2 n2 f3
                    go_cut [15] (fun s wc => s = .bool (sv || decide (0 < g2.length)) ∧ wc = wG2)
                    case first =>
                      cases sv
                      · go_wp2_with fail
                        go_meet
                        case rel => exact ⟨by rw [Bool.false_or], rfl⟩
                      · go_wp2_with fail
                        go_meet
                        case rel => exact ⟨by rw [Bool.true_or], rfl⟩
                    case rest =>
                      obtain ⟨rfl, hw⟩ := hcut
                      subst wc
                      have hc := (hO.txt.carry hG2b.bel hO.lt).cell (l0 - 1 - x) (by omega)
                      obtain ⟨sv2, hsv2⟩ : ∃ b, b = (sv || decide (0 < g2.length)) := ⟨_, rfl⟩
                      rw [← hsv2]
                      have HSV2 : Hid (sv2 = (sv || decide (0 < g2.length))) := hsv2
                      clear hsv2
                      rcases hVo with hVo | hVo
                      · as_aux_lemma =>
                          rw [hVo] at hc
                          have HVo : Hid (op.getD (l0 - 1 - x) 0 = 123) := hVo
                          clear hVo
                          go_upto_region 39 with (first
                            | (go_at_call 33; refine (quote_any hG2b v3O v4O (by omega) (by omega) (by omega)).mono ?_; rintro e wQ ⟨adq, nn, capq, rfl, q, hbq, hq, hnn⟩)
                            | (go_at_call 31; refine (gap_any hbq v2O hG2l (by omega) (by omega)).mono ?_; rintro e wG3 ⟨ad4, n4, cap4, p4, g3, rfl, hG3⟩))
                          have nq1 := hbq.len
                          have n4' := hG3.bt.len
                          have f4 := hG3.few
                          have hG3b := hG3.bt
                          have hG3l := hG3.le
                          have HG3s : Hid (AllSp g3) := hG3.sp
                          have HQ : Hid (Body q) := hq
                          have N4 : n4 ≤ p4 + x + 1 + 2 + 6 * l3 := by
                            have e4 : n4 = nn + g3.length := by rw [← n4', List.length_append, nq1]
                            omega
                          clear hbq hG2b hG3 nq1 f4 hq hc n3' n4' hnn N3
                          go_cut [15] (fun s wc => s = .bool (sv2 || decide (0 < g3.length)) ∧ wc = wG3)
                          case first =>
                            cases sv2
                            · go_wp2_with fail
                              go_meet
                              case rel => exact ⟨by rw [Bool.false_or], rfl⟩
                            · go_wp2_with fail
                              go_meet
                              case rel => exact ⟨by rw [Bool.true_or], rfl⟩
                          case rest =>
                            obtain ⟨rfl, hw⟩ := hcut
                            subst wc
                            obtain ⟨sv3, hsv3⟩ : ∃ b, b = (sv2 || decide (0 < g3.length)) := ⟨_, rfl⟩
                            rw [← hsv3]
                            have HSV3 : Hid (sv3 = (sv2 || decide (0 < g3.length))) := hsv3
                            clear hsv3
                            go_upto_region 42 with (first
                              | (at_builtin; refine wpList_push (w0 := wO) rfl (.tmp 154) (.tmp 155) rfl _ _ _ _ hG3b rfl 1 [58] rfl rfl (by omega) (n4 + 1) _ rfl rfl ?_; intro ad5 cap5 w5 hb5)
                              | (go_at_call 31; refine (gap_any hb5 v2O hG3l (by omega) (by omega)).mono ?_; rintro e wG4 ⟨ad6, n6, cap6, p6, g4, rfl, hG4⟩))
                            have n5 := hb5.len
                            have n6' := hG4.bt.len
                            have f6 := hG4.few
                            have N6 : n6 ≤ 1500000 := by
                              have e6 : n6 = n4 + 1 + g4.length := by rw [← n6', List.length_append, n5]
                              have := hG4.le
                              omega
                            have hFin : Fin wO wG4 ad6 n6 cap6 op l0 (l0 - x) (P ++ g ++ [44] ++ g2 ++ [34] ++ q ++ [34] ++ g3 ++ [58] ++ g4) (sv3 || decide (0 < g4.length)) := by
                              refine ⟨hG4.bt, N6, fun t ht => ?_⟩
                              rw [HR.out.object HG2s.out HQ.out HG3s.out hG4.sp ht HVo.out, n6', HSV3.out, HSV2.out, HSV.out, show l0 - 1 - x + 1 = l0 - x by omega]
                            clear hb5 hG4 hG3b n5 n6' f6 N6
                            cases sv3
                            · go_wp2_with fail
                              go_meet
                              case rel => exact ⟨ad6, n6, cap6, _, _, rfl, rfl, hFin⟩
                            · go_wp2_with fail
                              go_meet
                              case rel => exact ⟨ad6, n6, cap6, _, _, rfl, rfl, hFin⟩
                      · as_aux_lemma =>
                          rw [hVo] at hc
                          have HVo : Hid (op.getD (l0 - 1 - x) 0 = 91) := hVo
                          clear hVo
                          have hFin : Fin wO wG2 ad3 n3 cap3 op l0 (l0 - x) (P ++ g ++ [44] ++ g2) sv2 := by
                            refine ⟨hG2b, by omega, fun t ht => ?_⟩
                            rw [HR.out.array HG2s.out ht HVo.out, n3', HSV2.out, HSV.out, show l0 - 1 - x + 1 = l0 - x by omega]
                          go_wp2_with fail
                          go_meet
                          case rel => exact ⟨ad3, n3, cap3, _, sv2, rfl, rfl, hFin⟩
                  · have hkl' : ¬ (x : Int) < (l0 : Int) := by omega
                    have hR := hN.rch
                    rw [show l0 - x = 0 by omega] at hR
                    go_wp2_with fail
                    go_meet
                    case rel =>
                      refine ⟨ad, n, cap, P ++ g, sv, rfl, rfl, hNb, by omega, fun t ht => ?_⟩
                      rw [hR.done ht, hNb.len, HSV.out, show l0 - x = 0 by omega]
                case rest =>
                  as_aux_lemma =>
                    clear hN hNb HSV
                    obtain ⟨ad, n, cap, Z, sp, rfl, rfl, hF⟩ := hcut
                    have hFb := hF.bt
                    have hFf := hF.few
                    have HE : Hid (nextF (Z ++ ts) op l0 0 false = ⟨l0 - x, n, true, sp⟩) := hF.eq ts HTs.out
                    obtain ⟨L, hL⟩ : ∃ L, L = l0 - x := ⟨_, rfl⟩
                    rw [← hL] at HE
                    have hLl : L ≤ l0 := by omega
                    have hLn : ((L : Int) != (l0 : Int) - (x : Int)) = false := by simp; omega
                    have hv5 := v5O.carry hFb.bel
                    clear hF hL
                    go_wp2_with (at_builtin; go_must (refine wpList_appView (w0 := wO) rfl (.tmp 171) (.tmp 172) rfl _ _ _ _ hFb rfl a5 l5 c5 ts rfl hv5 (by omega) (n + l5) _ (by omega) rfl ?_); intro ad5 cap5 w5 hb5)
                    obtain ⟨g', ht, hg⟩ := hb5.txt (by omega)
                    have ho5 := hO.txt.carry hb5.bel hO.lt
                    have hl5 : 0 < l0 → go < w5.heap.size := fun h => Nat.lt_of_lt_of_le (hO.lt h) hb5.bel.size
                    refine (zznext_any (i := 0) ht hg (by omega) ho5 hl5 hO.cap).mono ?_
                    rw [HE.out]
                    rintro e' w6 ⟨rfl, hb6⟩
                    have HO6 := ho5.carry hb6 hl5
                    have HB : Hid (Below w.heap.size w w6) := hO.bel.trans ((hb5.bel.trans (hb6.mono hb5.bel.size)).mono hO.bel.size)
                    clear hb6 ht hg hb5 hFb ho5 hl5 hv5 HE hO v2O v3O v4O v5O
                    cases sp
                    all_goals
                      go_wp2_with fail
                      go_loopw [23] (fun t wr => ∃ y m : Nat, y ≤ L ∧ t = .int .i64 y ∧ wr = w6.drewN m) (fun t _ => L - (intOf t).toNat)
                      case atStart => exact ⟨0, 0, by omega, rfl, rfl⟩
                      case round =>
                        obtain ⟨y, m, hy0, rfl, rfl⟩ := hrel
                        by_cases hyl : y < L
                        · have hc := HO6.cell y (by omega)
                          obtain rfl := HO6.addr (by omega)
                          generalize op.getD y 0 = z at hc
                          have hy1 : (y : Int) < (L : Int) := by omega
                          have hy2 : (y : Int) < (l0 : Int) := by omega
                          go_wp2
                          go_quiet (fail)
                          go_wp2
                          go_roundw
                          case rel => exact ⟨y + 1, _, by omega, by go_num, rfl⟩
                          case measure => simp [intOf]; omega
                        · have hy1 : ¬ (y : Int) < (L : Int) := by omega
                          go_wp2_with fail
                          go_ret
                          exact ⟨rfl, HB.out.trans (below_drewN _)⟩
          · go_wp2_with fail
            go_ret
            exact ⟨rfl, Below.refl _ _⟩
    · as_aux_lemma =>
        go_enter Try.func9, Try.ntmps9
        go_wp2_with (go_at_call 27; refine (zzb27 _ _ _ _ _ _ _ _ _ _ _ _ _ _ _ _ _ m0 m2 m3 m4 m5).mono ?_; rintro e w' ⟨rfl, hw⟩; subst w'; rw [ok])
        all_goals
          go_ret
          exact ⟨rfl, Below.refl _ _⟩
  · have ok : okLen (l0 + l2 + l3 + l4 + l5) = false := by simp [okLen, hok]
    go_enter Try.func9, Try.ntmps9
    go_wp2_with (go_at_call 27; refine (zzb27 _ _ _ _ _ _ _ _ _ _ _ _ _ _ _ _ _ m0 m2 m3 m4 m5).mono ?_; rintro e w' ⟨rfl, hw⟩; subst w'; rw [ok])
    go_ret
    exact ⟨rfl, Below.refl _ _⟩

end Go.Proofs.Qxb6600868a
