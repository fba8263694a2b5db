import Derived.Test.Qxb6600868aZzEsc
import Derived.Test.Qxb6600868aArgs
namespace Go.Proofs.Qxb6600868a
open Go.RowKit Pl

set_option maxHeartbeats 1000000 in
theorem span_walk (a0 : Option Addr) (len0 cap0 : Nat) (z0 : List Int) (a1 : Int) (w : World) (w0 : Row8 w a0 len0 cap0 z0) :
    Calls Try.prog 8 #[.slice a0 len0 cap0, .int .i64 a1] w fun e w' => e = .returned (.bool true) ∧ Below w.heap.size w w' := by
  obtain ⟨hlc, hm, hzl, hzb, hv⟩ := w0.view
  generalize z0.take len0 = zs at hzl hzb hv
  clear w0 hzb
  by_cases hok : len0 ≤ 1048576
  · have ok : okLen len0 = true := by simp [okLen, hok]
    have hg : ¬ (1048576 : Int) < (len0 : Int) := by omega
    by_cases hr : 0 ≤ a1 ∧ a1 < len0
    · obtain ⟨i, rfl⟩ : ∃ i : Nat, a1 = i := ⟨a1.toNat, by omega⟩
      obtain ⟨hr0, hr1⟩ := hr
      have hi : i < len0 := by omega
      have HC := copy_sides hzl hv
      have HZ : Hid (zs.length = len0) := hzl
      obtain ⟨b, off, rfl, _, _⟩ := hv (by omega)
      have hne := fun wx => run_neq_slice_nil_any (P := Try.prog) wx 22 5 (some ⟨b, off, none⟩) len0 cap0 0 0 Try.underlying22
      have hmk := run_make_row' (P := Try.prog) 22 5 (.int .u8 0) 1 Try.underlying22 info5 rfl .i64 .i64 len0 (by omega) (by omega)
      obtain ⟨⟨e, q⟩, hp⟩ : ∃ p, p = esc zs i := ⟨_, rfl⟩
      have hle := esc_le zs i (by omega)
      rw [← hp] at hle
      obtain ⟨hle1, hle2, hle3⟩ := hle
      simp only at hle1 hle2 hle3
      rw [hzl] at hle2
      have HP : Hid ((e, q) = esc zs i) := hp
      clear hzl hv hp
      go_enter Try.func8, Try.ntmps8
      go_wp2_with (first | (go_at_call 26; refine (zzb26 _ _ _ _ _ hm).mono ?_; rintro e w' ⟨rfl, hw⟩; subst w'; rw [ok]) | (refine wpList_copy_splice rfl (.tmp 30) (.tmp 31) 22 22 rfl 5 Try.underlying22 size5 _ _ _ _ _ _ rfl rfl w.heap.size 0 (List.replicate len0 (Value.int .u8 0)) 5 (made_block w len0) (bcells zs) HC.n HC.pos HC.fit (bcells_one zs) w.heap.size w ((Below.refl _ _).alloc (Nat.le_refl _) _) (Nat.le_refl _) ?_; intro w2 HG HB))
      clear hne hmk
      clear HC
      have HT : Hid _ := txt_of_copy HG.out HZ.out (by omega)
      have HGl : Hid (w.heap.size < w2.heap.size) := lt_of_block HG.out
      refine (zzesc_any HT.out (fun _ => HGl.out) hi).mono ?_
      rw [← HP.out]
      rintro e' w3 ⟨rfl, hb3⟩
      cases q with
      | false =>
        go_wp2
        go_ret
        exact ⟨rfl, HB.trans (hb3.mono (Nat.le_of_lt HGl.out))⟩
      | true =>
        have hk := esc_ok zs i (by rw [← HP.out])
        have ht := esc_take zs i (by rw [← HP.out])
        rw [← HP.out] at hk ht
        obtain ⟨hk1, hk2, hk3⟩ := hk
        simp only at hk1 hk2 hk3 ht
        rw [HZ.out] at hk1
        have HT3 := HT.out.carry hb3 (fun _ => HGl.out)
        have hx := HT3.cell (i + 1) (by omega)
        have HG3 : Hid (w.heap.size < w3.heap.size) := Nat.lt_of_lt_of_le HGl.out hb3.size
        have HG4 : Hid (w.heap.size ≤ w3.heap.size) := Nat.le_of_lt HG3.out
        have HK3 : Hid (e = i + 5 ↔ zs.getD (i + 1) 0 = 117) := hk3
        have HTk : Hid (esc (zs.take (e + 1)) i = (e, true)) := ht
        have HB3 : Hid (Below w.heap.size w w3) := HB.trans (hb3.mono (Nat.le_of_lt HGl.out))
        clear hk3 ht hb3 HT HG HB
        rcases hk2 with he | he
        · have h5 : ((e : Int) == (i : Int) + 5) = false := by simp; omega
          have h1 : ((e : Int) != (i : Int) + 1) = false := by simp; omega
          have hu : (zs.getD (i + 1) 0 == 117) = false := by have := HK3.out; simp only [beq_eq_false_iff_ne, ne_eq]; omega
          generalize zs.getD (i + 1) 0 = x at hx hu
          clear HK3 he
          go_wp2_with fail
          refine (zzesc_any (HT3.cut (e + 1) (by omega)) (fun _ => HG3.out) (by omega)).mono ?_
          rw [HTk.out]
          rintro e' w4 ⟨rfl, hb4⟩
          have HB4 : Hid _ := HB3.out.trans (hb4.mono HG4.out)
          clear hb4 HB3 HT3 hx
          go_wp2
          go_ret
          exact ⟨rfl, HB4.out⟩
        · have h5 : ((e : Int) == (i : Int) + 5) = true := by simp; omega
          have h5' : ((e : Int) != (i : Int) + 5) = false := by simp; omega
          have h1 : ((e : Int) != (i : Int) + 1) = true := by simp; omega
          have hu : (zs.getD (i + 1) 0 == 117) = true := by have := HK3.out; simp only [beq_iff_eq]; omega
          generalize zs.getD (i + 1) 0 = x at hx hu
          clear HK3 he
          go_wp2_with fail
          refine (zzesc_any (HT3.cut (e + 1) (by omega)) (fun _ => HG3.out) (by omega)).mono ?_
          rw [HTk.out]
          rintro e' w4 ⟨rfl, hb4⟩
          have HB4 : Hid _ := HB3.out.trans (hb4.mono HG4.out)
          clear hb4 HB3 HT3 hx
          go_wp2
          go_ret
          exact ⟨rfl, HB4.out⟩
    · have hz : a1 < 0 ∨ (0 ≤ a1 ∧ (len0 : Int) ≤ a1) := by omega
      clear hv hr
      rcases hz with hz | ⟨hz1, hz2⟩
      · go_enter Try.func8, Try.ntmps8
        go_wp2_with (go_at_call 26; refine (zzb26 _ _ _ _ _ hm).mono ?_; rintro e w' ⟨rfl, hw⟩; subst w'; rw [ok])
        go_ret
        exact ⟨rfl, Below.refl _ _⟩
      · have hz3 : ¬ a1 < 0 := by omega
        go_enter Try.func8, Try.ntmps8
        go_wp2_with (go_at_call 26; refine (zzb26 _ _ _ _ _ hm).mono ?_; rintro e w' ⟨rfl, hw⟩; subst w'; rw [ok])
        go_ret
        exact ⟨rfl, Below.refl _ _⟩
  · have ok : okLen len0 = false := by simp [okLen, hok]
    clear hv
    go_enter Try.func8, Try.ntmps8
    go_wp2_with (go_at_call 26; refine (zzb26 _ _ _ _ _ hm).mono ?_; rintro e w' ⟨rfl, hw⟩; subst w'; rw [ok])
    go_ret
    exact ⟨rfl, Below.refl _ _⟩

end Go.Proofs.Qxb6600868a
