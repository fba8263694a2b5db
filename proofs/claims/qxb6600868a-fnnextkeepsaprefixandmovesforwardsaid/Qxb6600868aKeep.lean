import Derived.Test.Qxb6600868aOpen
import Derived.Test.Qxb6600868aPlainKeep
namespace Go.Proofs.Qxb6600868a
open Go.RowKit Pl

set_option maxHeartbeats 400000 in
theorem zzb37 (a0 : Option Addr) (l0 c0 : Nat) (x1 : Int) (a2 : Option Addr) (l2 c2 : Nat) (w : World) (h0 : l0 ≤ maxLen) (h2 : l2 ≤ maxLen) :
    Calls Try.prog 37 #[.slice a0 l0 c0, .int .i64 x1, .slice a2 l2 c2] w fun e w' => e = .returned (.bool (okLen (l0 + l2))) ∧ w' = w := by
  unfold maxLen at h0 h2
  by_cases h : l0 + l2 ≤ 1048576
  · have h1 : ¬ (1048576 : Int) < (l0 : Int) := by omega
    have h2 : ¬ (1048576 : Int) < (l2 : Int) := by omega
    have h3 : ¬ (1048576 : Int) < (l0 : Int) + (l2 : Int) := by omega
    go_enter Try.func37, Try.ntmps37
    go_wp2
    go_ret
    exact ⟨ret_bool (by simp [okLen, h]), rfl⟩
  · go_enter Try.func37, Try.ntmps37
    go_wp2
    all_goals
      go_ret
      exact ⟨ret_bool (by simp [okLen, h]), rfl⟩

set_option maxRecDepth 100000 in
set_option maxHeartbeats 4000000 in
theorem keep_walk (a0 : Option Addr) (l0 c0 : Nat) (z0 : List Int) (a1 : Int) (a2 : Option Addr) (l2 c2 : Nat) (z2 : List Int) (w : World) (w0 : Row8 w a0 l0 c0 z0) (w2 : Row8 w a2 l2 c2 z2) :
    Calls Try.prog 11 #[.slice a0 l0 c0, .int .i64 a1, .slice a2 l2 c2] w fun e w' => e = .returned (.bool true) ∧ Below w.heap.size w w' := by
  have v0 := w0.look
  have v2 := w2.look
  have m0 := w0.view.2.1
  have m2 := w2.view.2.1
  generalize z0.take l0 = zs at v0
  generalize z2.take l2 = op at v2
  clear w0 w2
  by_cases hok : l0 + l2 ≤ 1048576
  · have ok : okLen (l0 + l2) = true := by simp [okLen, hok]
    by_cases hB : l0 ≤ 524288 ∧ l2 ≤ 524288 ∧ 0 ≤ a1 ∧ a1 ≤ l0
    · obtain ⟨k0, k2, hr0, hr1⟩ := hB
      obtain ⟨i, rfl⟩ : ∃ i : Nat, a1 = i := ⟨a1.toNat, by omega⟩
      have hi : i ≤ l0 := by omega
      have g0 : ¬ (524288 : Int) < (l0 : Int) := by omega
      have g2 : ¬ (524288 : Int) < (l2 : Int) := by omega
      cases hV : validB op
      · go_enter Try.func11, Try.ntmps11
        go_wp2_with (first
          | (go_at_call 37; refine (zzb37 _ _ _ _ _ _ _ _ m0 m2).mono ?_; rintro e w' ⟨rfl, hw⟩; subst w'; rw [ok])
          | (go_at_call 28; refine (valid_any v2 (by omega)).mono ?_; rw [hV]; rintro e w' ⟨rfl, hw⟩; subst w'))
        go_ret
        exact ⟨rfl, Below.refl _ _⟩
      · have HC := copy_sides v0.len v0.at_
        have HZ : Hid (zs.length = l0) := v0.len
        have hne := fun wx => run_neq_slice_nil_any (P := Try.prog) wx 22 5 a0 l0 c0 0 0 Try.underlying22
        have hmk := run_make_row' (P := Try.prog) 22 5 (.int .u8 0) 1 Try.underlying22 info5 rfl .i64 .i64 l0 (by omega) (by omega)
        go_enter Try.func11, Try.ntmps11
        go_upto_if 36 with (first
          | (go_at_call 37; refine (zzb37 _ _ _ _ _ _ _ _ m0 m2).mono ?_; rintro e w' ⟨rfl, hw⟩; subst w'; rw [ok])
          | (go_at_call 28; refine (valid_any v2 (by omega)).mono ?_; rw [hV]; rintro e w' ⟨rfl, hw⟩; subst w'))
        go_cut [0] (fun s0 wc => ∃ ad cap g, s0 = .slice ad l0 cap ∧ Own w wc ad g l0 cap zs)
        case first =>
          cases a0 with
          | none =>
            obtain ⟨rfl, rfl⟩ := v0.nil rfl
            go_wp2_with fail
            go_meet
            case rel => exact ⟨none, 0, 0, rfl, ⟨HZ.out, fun h => by omega, fun k hk => by omega, by omega⟩, fun h => by omega, by omega, Below.refl _ _⟩
          | some ad =>
            go_wp2_with (refine wpList_copy_splice rfl (.tmp 40) (.tmp 41) 22 22 rfl 5 Try.underlying22 size5 _ _ _ _ _ _ rfl rfl w.heap.size 0 (List.replicate l0 (Value.int .u8 0)) 5 (made_block w l0) (bcells zs) HC.n HC.pos HC.fit (bcells_one zs) w.heap.size w ((Below.refl _ _).alloc (Nat.le_refl _) _) (Nat.le_refl _) ?_; intro w2 HG HB)
            go_meet
            case rel => exact ⟨_, _, w.heap.size, rfl, txt_of_copy HG.out HZ.out (by omega), fun _ => lt_of_block HG.out, Nat.le_refl _, HB⟩
        case rest =>
          clear hne hmk HC
          obtain ⟨ad, cap, g, rfl, hc⟩ := hcut
          have v2c := v2.carry hc.bel
          go_upto_region 16 with (go_at_call 30; refine (copy_any v2c (by omega)).mono ?_; rintro e w' ⟨ao, go, capo, rfl, hO⟩)
          have HTx := hc.txt.carry hO.bel hc.lt
          have HLx : Hid (0 < l0 → g < w'.heap.size) := fun h => Nat.lt_of_lt_of_le (hc.lt h) hO.bel.size
          have hK := nextF_keeps zs op l2 i false (by rw [HZ.out]; exact hi)
          have hKs := nextF_spaced zs op l2 i false
          obtain ⟨p, hp⟩ : ∃ p, p = nextF zs op l2 i false := ⟨_, rfl⟩
          have HPn : Hid (p = nextF zs op l2 i false) := hp
          rw [← hp] at hK hKs
          clear hp
          obtain ⟨L, e, q, s⟩ := p
          obtain ⟨hL, hge, hle, hEnd, hMv⟩ := hK
          simp only at hL hge hle hEnd hMv hKs
          rw [HZ.out] at hle
          have HEnd : Hid (q = true → L = 0 → e < l0 → isSp (zs.getD e 0) = false) := by rw [← HZ.out]; exact hEnd
          have HMv : Hid (q = true → 0 < L → i < e) := hMv
          have HKs : Hid (i < l0 → isSp (zs.getD i 0) = true → s = true) := by rw [← HZ.out]; exact hKs
          clear hEnd hMv hKs
          go_wp2_with fail
          refine (zznext_any HTx HLx.out hi hO.txt hO.lt hO.cap).mono ?_
          rw [← HPn.out]
          rintro e' w4 ⟨rfl, hb4⟩
          have HT4 := HTx.carry hb4 HLx.out
          have HO4 := hO.txt.carry hb4 hO.lt
          have HB4 : Hid (Below w.heap.size w w4) := hc.bel.trans ((hO.bel.trans (hb4.mono hO.bel.size)).mono hc.bel.size)
          clear hb4 HTx HLx hO hc v2c v2 HPn v0
          have gL : ¬ (l2 : Int) < (L : Int) := by omega
          go_wp2_with fail
          go_loopw [12] (fun t wr => ∃ k m : Nat, k ≤ L ∧ t = .int .i64 k ∧ wr = w4.drewN m) (fun t _ => L - (intOf t).toNat)
          case atStart => exact ⟨0, 0, by omega, rfl, rfl⟩
          case round =>
            obtain ⟨k, m, hk, rfl, rfl⟩ := hrel
            by_cases hlt : k < L
            · have hx := HO4.cell k (by omega)
              obtain rfl := HO4.addr (by omega)
              generalize op.getD k 0 = x at hx
              have hk1 : (k : Int) < (L : Int) := by omega
              have hk2 : (k : Int) < (l2 : Int) := by omega
              go_wp2
              go_quiet (fail)
              go_wp2
              go_roundw
              case rel => exact ⟨k + 1, _, by omega, by go_num, rfl⟩
              case measure => simp [intOf]; omega
            · have hk1 : ¬ (k : Int) < (L : Int) := by omega
              have h1 : ¬ (e : Int) < (i : Int) := by omega
              have h2 : ¬ (l0 : Int) < (e : Int) := by omega
              have HT5 := HT4.carry (below_drewN (B := w4.heap.size) m) (fun h => block_of_cell (HT4.cell 0 h))
              have HB5 : Hid (Below w.heap.size w (w4.drewN m)) := HB4.out.trans (below_drewN m)
              clear HT4 HO4 HB4
              go_upto_region 26 with fail
              generalize w4.drewN m = w5 at HT5 HB5 ⊢
              go_cut [98] (fun t wc => t = .bool false ∧ wc = w5)
              case first =>
                by_cases hil : i < l0
                · have hx := HT5.cell i hil
                  obtain rfl := HT5.addr (by omega)
                  have HKi := HKs.out hil
                  generalize zs.getD i 0 = x at hx HKi
                  have hil' : (i : Int) < (l0 : Int) := by omega
                  cases hsx : isSp x
                  · clear HKi
                    go_wp2_with (go_at_call 29; refine (nxSp_any _ _).mono ?_; rintro e w' ⟨rfl, hw⟩; subst w')
                    go_meet
                    case rel => exact ⟨rfl, rfl⟩
                  · obtain rfl := HKi hsx
                    clear HKi
                    go_wp2_with (go_at_call 29; refine (nxSp_any _ _).mono ?_; rintro e w' ⟨rfl, hw⟩; subst w')
                    go_meet
                    case rel => exact ⟨rfl, rfl⟩
                · have hil' : ¬ (i : Int) < (l0 : Int) := by omega
                  go_wp2_with fail
                  go_meet
                  case rel => exact ⟨rfl, rfl⟩
              case rest =>
                obtain ⟨rfl, hw⟩ := hcut
                subst wc
                go_upto_region 28 with fail
                go_cut [117] (fun t wc => t = .bool false ∧ wc = w5)
                case first =>
                  cases q with
                  | false =>
                    go_wp2_with fail
                    go_meet
                    case rel => exact ⟨rfl, rfl⟩
                  | true =>
                    by_cases hL0 : L = 0
                    · have hL0' : ((L : Int) == 0) = true := by simpa using hL0
                      by_cases hel : e < l0
                      · have hx := HT5.cell e hel
                        obtain rfl := HT5.addr (by omega)
                        have HE2 := HEnd.out rfl hL0 hel
                        generalize zs.getD e 0 = x at hx HE2
                        have hel' : (e : Int) < (l0 : Int) := by omega
                        clear hL0
                        go_wp2_with (go_at_call 29; refine (nxSp_any _ _).mono ?_; rintro e w' ⟨rfl, hw⟩; subst w')
                        go_meet
                        case rel => exact ⟨rfl, rfl⟩
                      · have hel' : ¬ (e : Int) < (l0 : Int) := by omega
                        clear hL0
                        go_wp2_with fail
                        go_meet
                        case rel => exact ⟨rfl, rfl⟩
                    · have hL0' : ((L : Int) == 0) = false := by simpa using hL0
                      go_wp2_with fail
                      go_meet
                      case rel => exact ⟨rfl, rfl⟩
                case rest =>
                  obtain ⟨rfl, hw⟩ := hcut
                  subst wc
                  cases q with
                  | false =>
                    go_wp2_with fail
                    go_ret
                    exact ⟨rfl, HB5.out⟩
                  | true =>
                    by_cases hL0 : 0 < L
                    · have hL0' : (0 : Int) < (L : Int) := by omega
                      have hie := HMv.out rfl hL0
                      have hie' : ¬ (e : Int) ≤ (i : Int) := by omega
                      go_wp2_with fail
                      go_ret
                      exact ⟨rfl, HB5.out⟩
                    · have hL0' : ¬ (0 : Int) < (L : Int) := by omega
                      go_wp2_with fail
                      go_ret
                      exact ⟨rfl, HB5.out⟩
    · go_enter Try.func11, Try.ntmps11
      go_wp2_with (go_at_call 37; refine (zzb37 _ _ _ _ _ _ _ _ m0 m2).mono ?_; rintro e w' ⟨rfl, hw⟩; subst w'; rw [ok])
      all_goals
        go_ret
        exact ⟨rfl, Below.refl _ _⟩
  · have ok : okLen (l0 + l2) = false := by simp [okLen, hok]
    go_enter Try.func11, Try.ntmps11
    go_wp2_with (go_at_call 37; refine (zzb37 _ _ _ _ _ _ _ _ m0 m2).mono ?_; rintro e w' ⟨rfl, hw⟩; subst w'; rw [ok])
    go_ret
    exact ⟨rfl, Below.refl _ _⟩

end Go.Proofs.Qxb6600868a
