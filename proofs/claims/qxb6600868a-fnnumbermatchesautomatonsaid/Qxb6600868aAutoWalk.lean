import Derived.Test.Qxb6600868aAuto
import Derived.Test.Qxb6600868aBuild
namespace Go.Proofs.Qxb6600868a
open Go.RowKit Pl

/-- The law's own copy of the text: nil where the text is nil. -/
structure Cp (w wc : World) (ad : Option Addr) (n : Nat) (g : Nat) (zs : List Int) : Prop where
  txt : Txt wc ad g n zs
  lt : 0 < n → g < wc.heap.size
  bel : Below w.heap.size w wc

/-- Where the automaton's run stands. -/
structure RunAt (zs : List Int) (i s p : Nat) : Prop where
  s8 : s ≤ 8
  ip : i ≤ p
  eq : aut 0 (zs.drop i) = ((p - i) + (aut s (zs.drop p)).1, (aut s (zs.drop p)).2)

theorem RunAt.end_ {zs : List Int} {i s p : Nat} (h : RunAt zs i s p) (he : p < zs.length → stp s (zs.getD p 0) = none) : num zs i = (p, acc s) := by
  rw [num_aut, h.eq, aut_stop he]
  have := h.ip
  simp; omega
theorem RunAt.go {zs : List Int} {i s p t : Nat} (h : RunAt zs i s p) (hp : p < zs.length) (he : stp s (zs.getD p 0) = some t) : RunAt zs i t (p + 1) := by
  refine ⟨stp_le he, by have := h.ip; omega, ?_⟩
  rw [h.eq, aut_step hp he]
  have := h.ip
  simp; omega

set_option maxRecDepth 100000 in
set_option maxHeartbeats 2000000 in
theorem auto_walk (a0 : Option Addr) (len0 cap0 : Nat) (z0 : List Int) (a1 : Int) (w : World) (w0 : Row8 w a0 len0 cap0 z0) :
    Calls Try.prog 3 #[.slice a0 len0 cap0, .int .i64 a1] w fun e w' => e = .returned (.bool true) ∧ Below w.heap.size w w' := by
  have hv := w0.look
  have hm := w0.view.2.1
  generalize z0.take len0 = zs at hv
  clear w0
  by_cases hok : len0 ≤ 1048576
  · have ok : okLen len0 = true := by simp [okLen, hok]
    have hg : ¬ (1048576 : Int) < (len0 : Int) := by omega
    by_cases hr : 0 ≤ a1 ∧ a1 ≤ len0
    · obtain ⟨i, rfl⟩ : ∃ i : Nat, a1 = i := ⟨a1.toNat, by omega⟩
      obtain ⟨hr0, hr1⟩ := hr
      have hi : i ≤ len0 := by omega
      have HC := copy_sides hv.len hv.at_
      have HZ : Hid (zs.length = len0) := hv.len
      have hne := fun wx => run_neq_slice_nil_any (P := Try.prog) wx 22 5 a0 len0 cap0 0 0 Try.underlying22
      have hmk := run_make_row' (P := Try.prog) 22 5 (.int .u8 0) 1 Try.underlying22 info5 rfl .i64 .i64 len0 (by omega) (by omega)
      go_enter Try.func3, Try.ntmps3
      go_upto_if 27 with (go_at_call 12; refine (zzb12 _ _ _ _ _ hm).mono ?_; rintro e w' ⟨rfl, hw⟩; subst w'; rw [ok])
      go_cut [0] (fun s0 wc => ∃ ad cap g, s0 = .slice ad len0 cap ∧ Cp w wc ad len0 g zs)
      case first =>
        cases a0 with
        | none =>
          obtain ⟨rfl, rfl⟩ := hv.nil rfl
          go_wp2_with fail
          go_meet
          case rel => exact ⟨none, 0, 0, rfl, ⟨HZ.out, fun h => by omega, fun k hk => by omega, by omega⟩, fun h => by omega, Below.refl _ _⟩
        | some ad =>
          go_wp2_with (refine wpList_copy_splice rfl (.tmp 31) (.tmp 32) 22 22 rfl 5 Try.underlying22 size5 _ _ _ _ _ _ rfl rfl w.heap.size 0 (List.replicate len0 (Value.int .u8 0)) 5 (made_block w len0) (bcells zs) HC.n HC.pos HC.fit (bcells_one zs) w.heap.size w ((Below.refl _ _).alloc (Nat.le_refl _) _) (Nat.le_refl _) ?_; intro w2 HG HB)
          go_meet
          case rel => exact ⟨_, _, w.heap.size, rfl, txt_of_copy HG.out HZ.out (by omega), fun _ => lt_of_block HG.out, HB⟩
      case rest =>
        clear hne hmk HC hv
        obtain ⟨ad, cap, g, rfl, hc⟩ := hcut
        go_wp2_with fail
        go_loop [6, 7] (fun t q => ∃ s p : Nat, p ≤ len0 ∧ t = .int .i64 s ∧ q = .int .i64 p ∧ RunAt zs i s p) (fun _ q => len0 - (intOf q).toNat)
        case atStart => exact ⟨0, i, hi, rfl, rfl, by omega, Nat.le_refl _, by simp⟩
        case round =>
          obtain ⟨s, p, hp, rfl, rfl, hR⟩ := hrel
          by_cases hlt : p < len0
          · have hx := hc.txt.cell p hlt
            obtain rfl := hc.txt.addr (by omega)
            obtain ⟨x, hX⟩ : ∃ x, x = zs.getD p 0 := ⟨_, rfl⟩
            rw [← hX] at hx
            cases hs : stp s x with
            | none =>
              have HN : Hid (num zs i = (p, acc s)) := hR.end_ (fun _ => by rw [← hX]; exact hs)
              have HSt : Hid (stp s x = none) := hs
              clear hs hX
              go_wp2_with (go_at_call 13; refine (step_any s hR.s8 x _).mono ?_; rw [HSt.out]; rintro e w' ⟨rfl, hw⟩; subst w'; unfold toI)
              refine (zznum_any hc.txt hc.lt hi).mono ?_
              rw [HN.out]
              rintro e' w3 ⟨rfl, hb3⟩
              have HB3 : Hid (Below w.heap.size w w3) := hc.bel.trans (hb3.mono hc.bel.size)
              clear hb3
              cases hacc : acc s
              all_goals
                go_wp2_with (go_at_call 15; refine (acc_any s _).mono ?_; rintro e w' ⟨rfl, hw⟩; subst w')
                go_ret
                exact ⟨rfl, HB3.out⟩
            | some t =>
              have hR2 := hR.go (by rw [HZ.out]; exact hlt) (by rw [← hX]; exact hs)
              have HSt : Hid (stp s x = some t) := hs
              have ht8 := hR2.s8
              clear hs hX
              go_wp2_with (go_at_call 13; refine (step_any s hR.s8 x _).mono ?_; rw [HSt.out]; rintro e w' ⟨rfl, hw⟩; subst w'; unfold toI)
              go_round
              case rel => exact ⟨t, p + 1, by omega, rfl, by go_num, hR2⟩
              case measure => simp [intOf]; omega
          · have HN : Hid (num zs i = (p, acc s)) := hR.end_ (fun h => absurd h (by rw [HZ.out]; exact hlt))
            have hp' : ¬ (p : Int) < (len0 : Int) := by omega
            go_wp2_with fail
            refine (zznum_any hc.txt hc.lt hi).mono ?_
            rw [HN.out]
            rintro e' w3 ⟨rfl, hb3⟩
            have HB3 : Hid (Below w.heap.size w w3) := hc.bel.trans (hb3.mono hc.bel.size)
            clear hb3
            cases hacc : acc s
            all_goals
              go_wp2_with (go_at_call 15; refine (acc_any s _).mono ?_; rintro e w' ⟨rfl, hw⟩; subst w')
              go_ret
              exact ⟨rfl, HB3.out⟩
    · have hz : a1 < 0 ∨ (0 ≤ a1 ∧ (len0 : Int) < a1) := by omega
      clear hv hr
      rcases hz with hz | ⟨hz1, hz2⟩
      · go_enter Try.func3, Try.ntmps3
        go_wp2_with (go_at_call 12; refine (zzb12 _ _ _ _ _ hm).mono ?_; rintro e w' ⟨rfl, hw⟩; subst w'; rw [ok])
        go_ret
        exact ⟨rfl, Below.refl _ _⟩
      · have hz3 : ¬ a1 < 0 := by omega
        go_enter Try.func3, Try.ntmps3
        go_wp2_with (go_at_call 12; refine (zzb12 _ _ _ _ _ hm).mono ?_; rintro e w' ⟨rfl, hw⟩; subst w'; rw [ok])
        go_ret
        exact ⟨rfl, Below.refl _ _⟩
  · have ok : okLen len0 = false := by simp [okLen, hok]
    clear hv
    go_enter Try.func3, Try.ntmps3
    go_wp2_with (go_at_call 12; refine (zzb12 _ _ _ _ _ hm).mono ?_; rintro e w' ⟨rfl, hw⟩; subst w'; rw [ok])
    go_ret
    exact ⟨rfl, Below.refl _ _⟩

end Go.Proofs.Qxb6600868a
