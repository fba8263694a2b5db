import Derived.Test.Qxb6600868aStr
namespace Go.Proofs.Qxb6600868a
open Go.RowKit Pl

set_option maxRecDepth 100000 in
set_option maxHeartbeats 2000000 in
theorem key_any {w : World} {c : Nat} {a : Option Addr} {g n cap : Nat} {zs : List Int} {i : Nat} {sp : Bool} (h : St w c a g n cap zs i sp) :
    Calls Try.prog 46 #[.pointer (some ⟨c, 0, none⟩)] w fun e w' => e = .returned (.bool (keyF zs i sp).2.1) ∧ St w' c a g n cap zs (keyF zs i sp).1 (keyF zs i sp).2.2 ∧ Below c w w' := by
  have hn := h.txt.small
  have HL : Hid (zs.length = n) := h.txt.len
  obtain ⟨⟨r1, r2, r3⟩, hp⟩ : ∃ p, p = keyF zs i sp := ⟨_, rfl⟩
  rw [← hp]
  simp only
  cases hA : atB zs i 34
  · have HP : Hid (r1 = i ∧ r2 = false ∧ r3 = sp) := by unfold keyF at hp; rw [hA, if_neg (by simp)] at hp; unfold Hid; simpa using hp
    clear hp
    go_enter Try.func46, Try.ntmps46
    go_wp2_with (go_at_call 42; refine (at_any h _).mono ?_; rintro e w' ⟨rfl, m, rfl⟩)
    go_ret
    obtain ⟨rfl, rfl, rfl⟩ := HP.out
    exact ⟨rfl, h.drewN _, below_drewN _⟩
  · have hi : i < n := by have := atB_lt hA; have := HL.out; omega
    unfold keyF at hp
    rw [hA, if_pos rfl] at hp
    obtain ⟨⟨j, o⟩, hq⟩ : ∃ q, q = str zs i := ⟨_, rfl⟩
    rw [← hq] at hp
    have HQ : Hid ((j, o) = str zs i) := hq
    clear hq
    cases o with
    | false =>
      have HP : Hid (r1 = j ∧ r2 = false ∧ r3 = sp) := by unfold Hid; simpa using hp
      clear hp
      go_enter Try.func46, Try.ntmps46
      go_wp2_with (first
        | (go_at_call 42; refine (at_any h _).mono ?_; rintro e w' ⟨rfl, m, rfl⟩)
        | (go_at_call 49; refine (str_any (h.drewN _) hi).mono ?_; rw [← HQ.out]; rintro e w' ⟨rfl, hs2, hb2⟩))
      go_ret
      obtain ⟨rfl, rfl, rfl⟩ := HP.out
      exact ⟨rfl, hs2, (below_drewN _).trans hb2⟩
    | true =>
      simp only [if_true] at hp
      cases hB : atB zs (skip zs j) 58
      · have HP : Hid (r1 = skip zs j ∧ r2 = false ∧ r3 = skipSp zs j sp) := by rw [hB, if_neg (by simp)] at hp; unfold Hid; simpa using hp
        clear hp
        go_enter Try.func46, Try.ntmps46
        go_upto_region 3 with (first
          | (go_at_call 42; refine (at_any h _).mono ?_; rintro e w' ⟨rfl, m, rfl⟩)
          | (go_at_call 49; refine (str_any (h.drewN _) hi).mono ?_; rw [← HQ.out]; rintro e w' ⟨rfl, hs2, hb2⟩))
        go_wp2_with (first
          | (go_at_call 45; refine (space_any hs2).mono ?_; rintro e w' ⟨rfl, hs3, hb3⟩)
          | (go_at_call 42; refine (at_any hs3 _).mono ?_; rintro e w' ⟨rfl, m3, rfl⟩))
        go_ret
        obtain ⟨rfl, rfl, rfl⟩ := HP.out
        exact ⟨rfl, hs3.drewN _, (below_drewN _).trans (hb2.trans (hb3.trans (below_drewN _)))⟩
      · have HP : Hid (r1 = skip zs (skip zs j + 1) ∧ r2 = true ∧ r3 = skipSp zs (skip zs j + 1) (skipSp zs j sp)) := by rw [hB, if_pos rfl] at hp; unfold Hid; simpa using hp
        have hkn : skip zs j < n := by have := atB_lt hB; have := HL.out; omega
        clear hp
        go_enter Try.func46, Try.ntmps46
        go_upto_region 3 with (first
          | (go_at_call 42; refine (at_any h _).mono ?_; rintro e w' ⟨rfl, m, rfl⟩)
          | (go_at_call 49; refine (str_any (h.drewN _) hi).mono ?_; rw [← HQ.out]; rintro e w' ⟨rfl, hs2, hb2⟩))
        go_upto_region 6 with (first
          | (go_at_call 45; refine (space_any hs2).mono ?_; rintro e w' ⟨rfl, hs3, hb3⟩)
          | (go_at_call 42; refine (at_any hs3 _).mono ?_; rintro e w' ⟨rfl, m3, rfl⟩))
        have k1 := hs3.chk.c1
        have k2 := hs3.chk.free 1
        obtain ⟨hs4, hb4⟩ := (hs3.drewN m3).step hkn
        go_wp2_with (go_at_call 45; refine (space_any hs4).mono ?_; rintro e w' ⟨rfl, hs5, hb5⟩)
        go_ret
        obtain ⟨rfl, rfl, rfl⟩ := HP.out
        exact ⟨rfl, hs5, (below_drewN _).trans (hb2.trans (hb3.trans ((below_drewN _).trans (hb4.trans hb5))))⟩

end Go.Proofs.Qxb6600868a
