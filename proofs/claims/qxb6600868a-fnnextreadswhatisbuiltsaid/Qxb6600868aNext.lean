import Derived.Test.Qxb6600868aKey
namespace Go.Proofs.Qxb6600868a
open Go.RowKit Pl

set_option maxRecDepth 100000 in
set_option maxHeartbeats 4000000 in
theorem next_any {w : World} {c : Nat} {a : Option Addr} {g n cap : Nat} {zs : List Int} {i : Nat} {sp : Bool} (h : St w c a g n cap zs i sp)
    {ao : Option Addr} {go mo capo : Nat} {op : List Int} (ho : Txt w ao go mo op) (hgo : 0 < mo → go < c) (hco : mo ≤ capo) :
    Calls Try.prog 41 #[.pointer (some ⟨c, 0, none⟩), .slice ao mo capo] w fun e w' =>
      e = .returned (.tuple #[.slice ao (nextF zs op mo i sp).left capo, .bool (nextF zs op mo i sp).ok]) ∧ St w' c a g n cap zs (nextF zs op mo i sp).at_ (nextF zs op mo i sp).sp ∧ Below c w w' := by
  have hn := h.txt.small
  have hmo := ho.small
  have HL : Hid (zs.length = n) := h.txt.len
  obtain ⟨p, hp⟩ : ∃ p, p = nextF zs op mo i sp := ⟨_, rfl⟩
  rw [← hp]
  go_enter Try.func41, Try.ntmps41
  go_wp2
  go_loopg [1] mo (fun m t wr => ∃ (i : Nat) (sp : Bool), m ≤ mo ∧ t = .slice ao m capo ∧ Hid (p = nextF zs op m i sp) ∧ St wr c a g n cap zs i sp ∧ Below c w wr)
  case atStart => exact ⟨i, sp, Nat.le_refl _, rfl, hp, h, Below.refl _ _⟩
  case round =>
    clear h hp
    obtain ⟨i, sp, hm, rfl, HP, hs, hb⟩ := hrel
    cases gk with
    | zero =>
      have HP2 : Hid (p = ⟨0, skip zs i, true, skipSp zs i sp⟩) := by unfold Hid; rw [HP.out, nextF]
      clear HP
      go_wp2_with (go_at_call 45; refine (space_any hs).mono ?_; rintro e w' ⟨rfl, hs3, hb3⟩)
      go_ret2
      rw [HP2.out]
      exact ⟨rfl, hs3, hb.trans hb3⟩
    | succ m =>
      have HP2 := HP.out
      rw [nextF] at HP2
      have hx := (ho.carry hb hgo).cell m (by omega)
      obtain rfl := ho.addr (by omega)
      obtain ⟨o, hO⟩ : ∃ o, o = op.getD m 0 := ⟨_, rfl⟩
      rw [← hO] at hx HP2
      have hgc : go < c := hgo (by omega)
      have hskl := skip_le zs i (by rw [HL.out]; exact hs.le)
      rw [HL.out] at hskl HP2
      obtain ⟨j, hj⟩ : ∃ j, j = skip zs i := ⟨_, rfl⟩
      obtain ⟨sp2, hsp2⟩ : ∃ s, s = skipSp zs i sp := ⟨_, rfl⟩
      rw [← hj] at hskl HP2
      rw [← hsp2] at HP2
      have HJ : Hid (j = skip zs i ∧ sp2 = skipSp zs i sp) := ⟨hj, hsp2⟩
      clear hj hsp2 hO HP
      have hxs : ∀ w', Below c wr w' → w'.cell? ⟨go, m, none⟩ = some (.int .u8 o) := fun w' hb' => (hb'.cell (p := ⟨go, m, none⟩) hgc).trans hx
      have HXS : Hid (∀ w', Below c wr w' → w'.cell? ⟨go, m, none⟩ = some (.int .u8 o)) := hxs
      clear hxs hx
      by_cases hjn : j < n
      · rw [if_pos hjn] at HP2
        have hjn' : ((j : Int) == (n : Int)) = false := by simp; omega
        cases hC : atB zs j 44
        · rw [hC, if_neg (by simp)] at HP2
          cases hD : atB zs j (closer o)
          · rw [hD, if_neg (by simp)] at HP2
            have HP3 : Hid _ := HP2
            clear HP2
            go_upto_region 4 with (go_at_call 45; refine (space_any hs).mono ?_; rw [← HJ.out.1, ← HJ.out.2]; rintro e w' ⟨rfl, hs3, hb3⟩)
            have k0 := hs3.chk.c0
            have k1 := hs3.chk.c1
            go_quiet (fail)
            have hx := HXS.out _ hb3
            go_wp2_with (first
              | (go_at_call 47; refine (closer_any _ _).mono ?_; rintro e w' ⟨rfl, hw⟩; subst w')
              | (go_at_call 42; refine (at_any (a := a) (g := g) (n := n) (cap := cap) (zs := zs) (i := j) (sp := sp2) ?_ _).mono ?_; (first | exact hs3.drewN _ | exact (hs3.drewN _).drewN _); rintro e w' ⟨rfl, m3, rfl⟩))
            go_ret2
            rw [HP3.out]
            exact ⟨rfl, hs3.drewN _, hb.trans (hb3.trans (below_drewN _))⟩
          · rw [hD, if_pos rfl] at HP2
            have HP3 : Hid _ := HP2
            clear HP2
            go_upto_region 4 with (go_at_call 45; refine (space_any hs).mono ?_; rw [← HJ.out.1, ← HJ.out.2]; rintro e w' ⟨rfl, hs3, hb3⟩)
            have k0 := hs3.chk.c0
            have k1 := hs3.chk.c1
            have k2 := hs3.chk.free 1
            go_quiet (fail)
            have hx := HXS.out _ hb3
            go_wp2_with (first
              | (go_at_call 47; refine (closer_any _ _).mono ?_; rintro e w' ⟨rfl, hw⟩; subst w')
              | (go_at_call 42; refine (at_any (a := a) (g := g) (n := n) (cap := cap) (zs := zs) (i := j) (sp := sp2) ?_ _).mono ?_; (first | exact hs3.drewN _ | exact (hs3.drewN _).drewN _); rintro e w' ⟨rfl, m3, rfl⟩))
            go_roundg m
            case measure => omega
            case rel => exact ⟨j + 1, sp2, by omega, by rfl, HP3.out, ((hs3.drewN _).step hjn).1, hb.trans (hb3.trans ((below_drewN _).trans ((hs3.drewN _).step hjn).2))⟩
        · rw [hC, if_pos rfl] at HP2
          by_cases ho91 : o = 91
          · have ho' : (o == 91) = true := by simpa using ho91
            rw [if_pos ho91] at HP2
            have HP3 : Hid _ := HP2
            clear HP2 ho91
            go_upto_region 4 with (go_at_call 45; refine (space_any hs).mono ?_; rw [← HJ.out.1, ← HJ.out.2]; rintro e w' ⟨rfl, hs3, hb3⟩)
            have k0 := hs3.chk.c0
            have k1 := hs3.chk.c1
            have k2 := hs3.chk.free 1
            go_quiet (fail)
            have hx := HXS.out _ hb3
            go_upto_region 9 with (go_at_call 42; refine (at_any (hs3.drewN _) _).mono ?_; rintro e w' ⟨rfl, m3, rfl⟩)
            obtain ⟨hs4, hb4⟩ := (hs3.drewN (nq + m3)).step hjn
            go_wp2_with (go_at_call 45; refine (space_any hs4).mono ?_; rintro e w' ⟨rfl, hs5, hb5⟩)
            go_ret2
            rw [HP3.out]
            exact ⟨rfl, hs5, hb.trans (hb3.trans ((below_drewN _).trans (hb4.trans hb5)))⟩
          · have ho' : (o == 91) = false := by simpa using ho91
            rw [if_neg ho91] at HP2
            have HP3 : Hid _ := HP2
            clear HP2 ho91
            go_upto_region 4 with (go_at_call 45; refine (space_any hs).mono ?_; rw [← HJ.out.1, ← HJ.out.2]; rintro e w' ⟨rfl, hs3, hb3⟩)
            have k0 := hs3.chk.c0
            have k1 := hs3.chk.c1
            have k2 := hs3.chk.free 1
            go_quiet (fail)
            have hx := HXS.out _ hb3
            go_upto_region 9 with (go_at_call 42; refine (at_any (hs3.drewN _) _).mono ?_; rintro e w' ⟨rfl, m3, rfl⟩)
            obtain ⟨hs4, hb4⟩ := (hs3.drewN (nq + m3)).step hjn
            go_wp2_with (first
              | (go_at_call 45; refine (space_any hs4).mono ?_; rintro e w' ⟨rfl, hs5, hb5⟩)
              | (go_at_call 46; refine (key_any hs5).mono ?_; rintro e w' ⟨rfl, hs6, hb6⟩))
            go_ret2
            rw [HP3.out]
            exact ⟨rfl, hs6, hb.trans (hb3.trans ((below_drewN _).trans (hb4.trans (hb5.trans hb6))))⟩
      · rw [if_neg hjn] at HP2
        have hjn' : ((j : Int) == (n : Int)) = true := by simp; omega
        have HP3 : Hid _ := HP2
        clear HP2
        go_upto_region 4 with (go_at_call 45; refine (space_any hs).mono ?_; rw [← HJ.out.1, ← HJ.out.2]; rintro e w' ⟨rfl, hs3, hb3⟩)
        have k0 := hs3.chk.c0
        have k1 := hs3.chk.c1
        go_quiet (fail)
        go_wp2_with fail
        go_ret2
        rw [HP3.out]
        exact ⟨rfl, hs3.drewN _, hb.trans (hb3.trans (below_drewN _))⟩

end Go.Proofs.Qxb6600868a
