import Derived.Test.Qxb6600868aNum
namespace Go.Proofs.Qxb6600868a
open Go.RowKit Pl

def expDig (zs : List Int) (j : Nat) : Nat × Bool := if dgAt zs j = 0 then (j, false) else (j + dgAt zs j, true)
def expTail (zs : List Int) (j : Nat) : Nat × Bool := if (atB zs j 43 || atB zs j 45) = true then expDig zs (j + 1) else expDig zs j

/-- Where the number step stands: at place j, with p for its answer once the rest is done. -/
structure NumAt (w wc : World) (c : Nat) (a : Option Addr) (g n cap : Nat) (zs : List Int) (sp : Bool) (F : List Int → Nat → Nat × Bool) (p : Nat × Bool) (j : Nat) : Prop where
  st : St wc c a g n cap zs j sp
  bel : Below c w wc
  eq : p = F zs j

set_option maxRecDepth 100000 in
set_option maxHeartbeats 4000000 in
theorem number_any {w : World} {c : Nat} {a : Option Addr} {g n cap : Nat} {zs : List Int} {i : Nat} {sp : Bool} (h : St w c a g n cap zs i sp) :
    Calls Try.prog 38 #[.pointer (some ⟨c, 0, none⟩)] w fun e w' => e = .returned (.bool (num zs i).2) ∧ St w' c a g n cap zs (num zs i).1 sp ∧ Below c w w' := by
  have hn := h.txt.small
  have HL : Hid (zs.length = n) := h.txt.len
  obtain ⟨p, hp⟩ : ∃ p, p = num zs i := ⟨_, rfl⟩
  rw [← hp]
  have HP : Hid (p = num zs i) := hp
  clear hp
  go_enter Try.func38, Try.ntmps38
  go_upto_if 4 with (go_at_call 42; refine (at_any h _).mono ?_; rintro e w' ⟨rfl, m, rfl⟩)
  go_cut [] (fun wc => ∃ j, NumAt w wc c a g n cap zs sp numInt p j)
  case first =>
    cases hA : atB zs i 45
    · go_wp2_with fail
      go_meet
      case rel => exact ⟨i, h.drewN _, below_drewN _, by rw [HP.out, num, hA]; rfl⟩
    · have hlt : i < n := by have := atB_lt hA; have := HL.out; omega
      have h1 := h.chk.c1
      have hf := h.chk.free 1
      go_wp2_with fail
      go_meet
      case rel =>
        obtain ⟨hs2, hb2⟩ := (h.drewN m).step hlt
        exact ⟨i + 1, hs2, (below_drewN _).trans hb2, by rw [HP.out, num, hA]; rfl⟩
  case rest =>
    clear HP h
    obtain ⟨j, hj⟩ := hcut
    go_upto_if 13 with (go_at_call 42; refine (at_any hj.st _).mono ?_; rintro e w' ⟨rfl, m, rfl⟩)
    go_cut [] (fun wc => ∃ j, NumAt w wc c a g n cap zs sp numFrac p j)
    case first =>
      cases hA : atB zs j 48
      · obtain ⟨d, hd⟩ : ∃ d, d = dgAt zs j := ⟨_, rfl⟩
        have HD : Hid (d = dgAt zs j) := hd
        clear hd
        by_cases hz : d = 0
        · have HE : Hid (p = (j, false)) := by unfold Hid; rw [hj.eq, numInt, hA, ← HD.out, hz]; rfl
          have hz' : ((d : Int) == 0) = true := by simpa using hz
          clear hz
          go_wp2_with (go_at_call 43; refine (digits_any (hj.st.drewN m)).mono ?_; rw [← HD.out]; rintro e w' ⟨rfl, hs3, hb3⟩)
          go_ret
          rw [HE.out]
          have hz : d = 0 := by simpa using hz'
          subst hz
          exact ⟨rfl, hs3, (hj.bel.trans (below_drewN _)).trans hb3⟩
        · have HE : Hid (p = numFrac zs (j + d)) := by unfold Hid; rw [hj.eq, numInt, hA, ← HD.out, if_neg (by simp), if_neg hz]
          have hz' : ((d : Int) == 0) = false := by simpa using hz
          clear hz
          go_wp2_with (go_at_call 43; refine (digits_any (hj.st.drewN m)).mono ?_; rw [← HD.out]; rintro e w' ⟨rfl, hs3, hb3⟩)
          go_meet
          case rel => exact ⟨j + d, hs3, (hj.bel.trans (below_drewN _)).trans hb3, HE.out⟩
      · have hlt : j < n := by have := atB_lt hA; have := HL.out; omega
        have h1 := hj.st.chk.c1
        have hf := hj.st.chk.free 1
        go_wp2_with fail
        go_meet
        case rel =>
          obtain ⟨hs2, hb2⟩ := (hj.st.drewN m).step hlt
          exact ⟨j + 1, hs2, (hj.bel.trans (below_drewN _)).trans hb2, by rw [hj.eq, numInt, hA]; rfl⟩
    case rest =>
      clear hj
      obtain ⟨k, hk⟩ := hcut
      go_upto_if 25 with (go_at_call 42; refine (at_any hk.st _).mono ?_; rintro e w' ⟨rfl, m, rfl⟩)
      go_cut [] (fun wc => ∃ j, NumAt w wc c a g n cap zs sp numExp p j)
      case first =>
        cases hA : atB zs k 46
        · go_wp2_with fail
          go_meet
          case rel => exact ⟨k, hk.st.drewN _, hk.bel.trans (below_drewN _), by rw [hk.eq, numFrac, hA]; rfl⟩
        · have hlt : k < n := by have := atB_lt hA; have := HL.out; omega
          have h1 := hk.st.chk.c1
          have hf := hk.st.chk.free 1
          obtain ⟨hs2, hb2⟩ := (hk.st.drewN m).step hlt
          obtain ⟨d, hd⟩ : ∃ d, d = dgAt zs (k + 1) := ⟨_, rfl⟩
          have HD : Hid (d = dgAt zs (k + 1)) := hd
          clear hd
          by_cases hz : d = 0
          · have HE : Hid (p = (k + 1, false)) := by unfold Hid; rw [hk.eq, numFrac, hA, ← HD.out, hz]; rfl
            have hz' : ((d : Int) == 0) = true := by simpa using hz
            clear hz
            go_wp2_with (go_at_call 43; refine (digits_any hs2).mono ?_; rw [← HD.out]; rintro e w' ⟨rfl, hs3, hb3⟩)
            go_ret
            rw [HE.out]
            have hz : d = 0 := by simpa using hz'
            subst hz
            exact ⟨rfl, hs3, ((hk.bel.trans (below_drewN _)).trans hb2).trans hb3⟩
          · have HE : Hid (p = numExp zs (k + 1 + d)) := by unfold Hid; rw [hk.eq, numFrac, hA, ← HD.out, if_pos rfl, if_neg hz]
            have hz' : ((d : Int) == 0) = false := by simpa using hz
            clear hz
            go_wp2_with (go_at_call 43; refine (digits_any hs2).mono ?_; rw [← HD.out]; rintro e w' ⟨rfl, hs3, hb3⟩)
            go_meet
            case rel => exact ⟨k + 1 + d, hs3, ((hk.bel.trans (below_drewN _)).trans hb2).trans hb3, HE.out⟩
      case rest =>
        clear hk
        obtain ⟨l, hl⟩ := hcut
        go_upto_region 11 with fail
        go_cut [41] (fun s wc => s = .bool (atB zs l 101 || atB zs l 69) ∧ NumAt w wc c a g n cap zs sp numExp p l)
        case first =>
          cases hA : atB zs l 101
          · cases hB : atB zs l 69
            all_goals
              go_wp2_with (go_at_call 42; refine (at_any (a := a) (g := g) (n := n) (cap := cap) (zs := zs) (i := l) (sp := sp) ?_ _).mono ?_; (first | exact hl.st | exact hl.st.drewN _); rintro e w' ⟨rfl, m, rfl⟩)
              go_meet
              case rel => exact ⟨by rw [hA, hB]; rfl, ⟨by first | exact hl.st.drewN _ | exact (hl.st.drewN _).drewN _, by first | exact hl.bel.trans (below_drewN _) | exact (hl.bel.trans (below_drewN _)).trans (below_drewN _), hl.eq⟩⟩
          · go_wp2_with (go_at_call 42; refine (at_any (a := a) (g := g) (n := n) (cap := cap) (zs := zs) (i := l) (sp := sp) ?_ _).mono ?_; (first | exact hl.st | exact hl.st.drewN _); rintro e w' ⟨rfl, m, rfl⟩)
            go_meet
            case rel => exact ⟨by rw [hA]; rfl, ⟨hl.st.drewN _, hl.bel.trans (below_drewN _), hl.eq⟩⟩
        case rest =>
          clear hl
          obtain ⟨rfl, hl⟩ := hcut
          cases hA : (atB zs l 101 || atB zs l 69)
          · have HE : Hid (p = (l, true)) := by unfold Hid; rw [hl.eq, numExp, hA]; rfl
            go_wp2_with fail
            go_ret
            rw [HE.out]
            exact ⟨rfl, hl.st, hl.bel⟩
          · have hlt : l < n := by
              have := HL.out
              rcases Bool.or_eq_true_iff.1 hA with h | h
              · have := atB_lt h; omega
              · have := atB_lt h; omega
            have h1 := hl.st.chk.c1
            have hf := hl.st.chk.free 1
            obtain ⟨hs2, hb2⟩ := hl.st.step hlt
            have hr : NumAt w _ c a g n cap zs sp expTail p (l + 1) :=
              ⟨hs2, hl.bel.trans hb2, by rw [hl.eq, numExp, hA]; rfl⟩
            clear hl hs2 hb2
            go_upto_region 13 with fail
            clear h1 hf
            go_cut [54] (fun s wc => s = .bool (atB zs (l + 1) 43 || atB zs (l + 1) 45) ∧ NumAt w wc c a g n cap zs sp expTail p (l + 1))
            case first =>
              cases hA : atB zs (l + 1) 43
              · cases hB : atB zs (l + 1) 45
                all_goals
                  go_wp2_with (go_at_call 42; refine (at_any (a := a) (g := g) (n := n) (cap := cap) (zs := zs) (i := l + 1) (sp := sp) ?_ _).mono ?_; (first | exact hr.st | exact hr.st.drewN _); rintro e w' ⟨rfl, m, rfl⟩)
                  go_meet
                  case rel => exact ⟨by rw [hA, hB]; rfl, ⟨by first | exact hr.st.drewN _ | exact (hr.st.drewN _).drewN _, by first | exact hr.bel.trans (below_drewN _) | exact (hr.bel.trans (below_drewN _)).trans (below_drewN _), hr.eq⟩⟩
              · go_wp2_with (go_at_call 42; refine (at_any (a := a) (g := g) (n := n) (cap := cap) (zs := zs) (i := l + 1) (sp := sp) ?_ _).mono ?_; (first | exact hr.st | exact hr.st.drewN _); rintro e w' ⟨rfl, m, rfl⟩)
                go_meet
                case rel => exact ⟨by rw [hA]; rfl, ⟨hr.st.drewN _, hr.bel.trans (below_drewN _), hr.eq⟩⟩
            case rest =>
              clear hr
              obtain ⟨rfl, hr⟩ := hcut
              go_upto_if 54 with fail
              go_cut [] (fun wc => ∃ j, NumAt w wc c a g n cap zs sp expDig p j)
              case first =>
                cases hA : (atB zs (l + 1) 43 || atB zs (l + 1) 45)
                · go_wp2_with fail
                  go_meet
                  case rel => exact ⟨l + 1, hr.st, hr.bel, by rw [hr.eq, expTail, hA]; rfl⟩
                · have hlt : l + 1 < n := by
                    have := HL.out
                    rcases Bool.or_eq_true_iff.1 hA with h | h
                    · have := atB_lt h; omega
                    · have := atB_lt h; omega
                  have h1 := hr.st.chk.c1
                  have hf := hr.st.chk.free 1
                  go_wp2_with fail
                  go_meet
                  case rel =>
                    obtain ⟨hs2, hb2⟩ := hr.st.step hlt
                    exact ⟨l + 1 + 1, hs2, hr.bel.trans hb2, by rw [hr.eq, expTail, hA]; rfl⟩
              case rest =>
                clear hr
                obtain ⟨q, hq⟩ := hcut
                obtain ⟨d, hd⟩ : ∃ d, d = dgAt zs q := ⟨_, rfl⟩
                have HD : Hid (d = dgAt zs q) := hd
                clear hd
                by_cases hz : d = 0
                · have HE : Hid (p = (q, false)) := by unfold Hid; rw [hq.eq, expDig, ← HD.out, hz]; rfl
                  have hz' : ((d : Int) == 0) = true := by simpa using hz
                  clear hz
                  go_wp2_with (go_at_call 43; refine (digits_any hq.st).mono ?_; rw [← HD.out]; rintro e w' ⟨rfl, hs3, hb3⟩)
                  go_ret
                  rw [HE.out]
                  have hz : d = 0 := by simpa using hz'
                  subst hz
                  exact ⟨rfl, hs3, hq.bel.trans hb3⟩
                · have HE : Hid (p = (q + d, true)) := by unfold Hid; rw [hq.eq, expDig, ← HD.out, if_neg hz]
                  have hz' : ((d : Int) == 0) = false := by simpa using hz
                  clear hz
                  go_wp2_with (go_at_call 43; refine (digits_any hq.st).mono ?_; rw [← HD.out]; rintro e w' ⟨rfl, hs3, hb3⟩)
                  go_ret
                  rw [HE.out]
                  exact ⟨rfl, hs3, hq.bel.trans hb3⟩

set_option maxHeartbeats 400000 in
theorem zznum_any {w : World} {a : Option Addr} {g n cap : Nat} {zs : List Int} {i : Nat} (h : Txt w a g n zs) (hg : 0 < n → g < w.heap.size) (hi : i ≤ n) :
    Calls Try.prog 14 #[.slice a n cap, .int .i64 i] w fun e w' => e = .returned (.tuple #[.int .i64 (num zs i).1, .bool (num zs i).2]) ∧ Below w.heap.size w w' := by
  have HS : Hid _ := (St.boxed h hg cap hi).1
  have HB : Hid _ := (St.boxed h hg cap hi).2
  clear h hg
  go_enter Try.func14, Try.ntmps14
  go_wp2_with fail
  refine (number_any HS.out).mono ?_
  rintro e w' ⟨rfl, hs, hb⟩
  have h1 := hs.chk.c1
  have HB2 : Hid _ := HB.out.trans hb
  clear hs hb HS HB
  go_wp2
  go_ret2
  exact ⟨rfl, HB2.out⟩

end Go.Proofs.Qxb6600868a
