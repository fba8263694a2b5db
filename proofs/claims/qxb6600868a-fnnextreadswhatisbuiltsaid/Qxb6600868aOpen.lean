import Derived.Test.Qxb6600868aZzNext
import Derived.Test.Qxb6600868aBuild
namespace Go.Proofs.Qxb6600868a
open Go.RowKit Pl

theorem nxSp_any (x : Int) (w : World) : Calls Try.prog 29 #[.int .u8 x] w fun e w' => e = .returned (.bool (isSp x)) ∧ w' = w := by
  go_enter Try.func29, Try.ntmps29
  go_wp2
  all_goals
    go_ret
    exact ⟨ret_bool (by first | (subst x; rfl) | (rw [Bool.eq_iff_iff]; simp [isSp]; omega)), rfl⟩

theorem nxClose_any (x : Int) (w : World) : Calls Try.prog 32 #[.int .u8 x] w fun e w' => e = .returned (.int .u8 (closer x)) ∧ w' = w := by
  go_enter Try.func32, Try.ntmps32
  go_wp2
  · go_ret
    have h : (x == 123) = true := by assumption
    simp at h
    exact ⟨ret_int (by simp [closer, h]), rfl⟩
  · go_ret
    have h : (x == 123) = false := by assumption
    simp at h
    exact ⟨ret_int (by simp [closer, h]), rfl⟩

/-- Every byte is an opening one. -/
def validB (ys : List Int) : Bool := ys.all fun x => x == 123 || x == 91

theorem validB_of {ys : List Int} (h : ∀ j, j < ys.length → ys.getD j 0 = 123 ∨ ys.getD j 0 = 91) : validB ys = true := by
  rw [validB, List.all_eq_true]
  intro x hx
  obtain ⟨j, hj, rfl⟩ := List.getElem_of_mem hx
  have := h j hj
  rw [List.getD_eq_getElem?_getD, List.getElem?_eq_getElem hj] at this
  simpa using this
theorem validB_not {ys : List Int} {j : Nat} (hj : j < ys.length) (h1 : (ys.getD j 0 != 123) = true) (h2 : (ys.getD j 0 != 91) = true) : validB ys = false := by
  rw [validB, List.all_eq_false]
  refine ⟨ys[j], List.getElem_mem hj, ?_⟩
  rw [List.getD_eq_getElem?_getD, List.getElem?_eq_getElem hj] at h1 h2
  simp at h1 h2
  simp [h1, h2]
theorem validB_at {ys : List Int} (h : validB ys = true) {j : Nat} (hj : j < ys.length) : ys.getD j 0 = 123 ∨ ys.getD j 0 = 91 := by
  rw [validB, List.all_eq_true] at h
  have := h _ (List.getElem_mem hj)
  rw [List.getD_eq_getElem?_getD, List.getElem?_eq_getElem hj]
  simpa using this

set_option maxHeartbeats 1000000 in
theorem valid_any {w : World} {a : Option Addr} {l cap : Nat} {ys : List Int} (hv : View w a l cap ys) (hl : l ≤ 4194304) :
    Calls Try.prog 28 #[.slice a l cap] w fun e w' => e = .returned (.bool (validB ys)) ∧ w' = w := by
  have HL : Hid (ys.length = l) := hv.len
  go_enter Try.func28, Try.ntmps28
  go_wp2
  go_loop [3] (fun i => ∃ k : Nat, k ≤ l ∧ i = .int .i64 k ∧ Hid (∀ j, j < k → ys.getD j 0 = 123 ∨ ys.getD j 0 = 91)) (fun i => l - (intOf i).toNat)
  case atStart => exact ⟨0, by omega, rfl, fun j hj => by omega⟩
  case round =>
    obtain ⟨k, hk, rfl, H⟩ := hrel
    by_cases hlt : k < l
    · obtain ⟨b, off, rfl, _, hc⟩ := hv.at_ (by omega)
      have hx := hc k hlt
      obtain ⟨x, hX⟩ : ∃ x, x = ys.getD k 0 := ⟨_, rfl⟩
      rw [← hX] at hx
      have HX : Hid (x = ys.getD k 0) := hX
      clear hc hX
      cases h1 : (x != 123)
      · go_wp2
        go_round
        case rel =>
          refine ⟨k + 1, by omega, by go_num, fun j hj => ?_⟩
          by_cases hjk : j < k
          · exact H.out j hjk
          · obtain rfl : j = k := by omega
            rw [← HX.out]; left; simpa using h1
        case measure => simp [intOf]; omega
      · cases h2 : (x != 91)
        · go_wp2
          go_round
          case rel =>
            refine ⟨k + 1, by omega, by go_num, fun j hj => ?_⟩
            by_cases hjk : j < k
            · exact H.out j hjk
            · obtain rfl : j = k := by omega
              rw [← HX.out]; right; simpa using h2
          case measure => simp [intOf]; omega
        · have HV : Hid (validB ys = false) := validB_not (j := k) (by rw [HL.out]; exact hlt) (by rw [← HX.out]; exact h1) (by rw [← HX.out]; exact h2)
          go_wp2
          go_ret
          exact ⟨ret_bool HV.out.symm, rfl⟩
    · have HV : Hid (validB ys = true) := validB_of (fun j hj => H.out j (by have := HL.out; omega))
      go_wp2
      go_ret
      exact ⟨ret_bool HV.out.symm, rfl⟩

/-- The copy half made: k cells are there, the rest are zero. -/
def half (ys : List Int) (l k : Nat) : List Int := ys.take k ++ List.replicate (l - k) 0
theorem half_length {ys : List Int} {l k : Nat} (h : ys.length = l) (hk : k ≤ l) : (half ys l k).length = l := by simp [half]; omega
theorem half_zero (ys : List Int) (l : Nat) : half ys l 0 = List.replicate l 0 := by simp [half]
theorem half_all {ys : List Int} {l : Nat} (h : ys.length = l) : half ys l l = ys := by simp [half, ← h]
theorem half_step {ys : List Int} {l k : Nat} (h : ys.length = l) (hk : k < l) : (half ys l k).set k (ys.getD k 0) = half ys l (k + 1) := by
  have hkl : k < ys.length := by omega
  have e1 : List.replicate (l - k) (0 : Int) = 0 :: List.replicate (l - (k + 1)) 0 := by
    rw [show l - k = (l - (k + 1)) + 1 by omega, List.replicate_succ]
  have e2 : (ys.take k).length = k := by simp; omega
  have e3 : ys.getD k 0 = ys[k] := by simp [List.getD_eq_getElem?_getD, List.getElem?_eq_getElem hkl]
  unfold half
  rw [List.set_append_right _ _ (by omega), e2, Nat.sub_self, e1, List.set_cons_zero, List.take_succ_eq_append_getElem hkl, e3, List.append_assoc]
  rfl
theorem half_set {ys : List Int} {l k : Nat} (h : ys.length = l) (hk : k < l) : (bcells (half ys l k)).toArray.setIfInBounds k (.int .u8 (ys.getD k 0)) = (bcells (half ys l (k + 1))).toArray := by
  rw [List.setIfInBounds_toArray, ← half_step h hk]
  congr 1
  rw [bcells, bcells, List.map_set]

/-- What nxCopy leaves: a slice of the call's own with the same bytes, or nil. -/
structure Own (w w' : World) (ao : Option Addr) (go l capo : Nat) (ys : List Int) : Prop where
  txt : Txt w' ao go l ys
  lt : 0 < l → go < w'.heap.size
  cap : l ≤ capo
  bel : Below w.heap.size w w'

set_option maxHeartbeats 1000000 in
theorem copy_any {w : World} {a : Option Addr} {l cap : Nat} {ys : List Int} (hv : View w a l cap ys) (hl : l ≤ 4194304) :
    Calls Try.prog 30 #[.slice a l cap] w fun e w' => ∃ (ao : Option Addr) (go capo : Nat), e = .returned (.slice ao l capo) ∧ Own w w' ao go l capo ys := by
  have HL : Hid (ys.length = l) := hv.len
  have hne := fun wx => Lib.run_eql_slice_nil (P := Try.prog) wx 22 5 a l cap 0 0 Try.underlying22
  have hmk := run_make_row' (P := Try.prog) 22 5 (.int .u8 0) 1 Try.underlying22 info5 rfl .i64 .i64 l (by omega) (by omega)
  cases a with
  | none =>
    obtain ⟨rfl, rfl⟩ := hv.nil rfl
    go_enter Try.func30, Try.ntmps30
    go_wp2
    go_ret
    exact ⟨none, 0, 0, rfl, ⟨HL.out, fun h => by omega, fun k hk => by omega, by omega⟩, fun h => by omega, by omega, Below.refl _ _⟩
  | some ad =>
    have HB0 : Hid (Below w.heap.size w (w.alloc (.cells (madeCells #[.int .u8 0] l) 5))) := (Below.refl _ _).alloc (Nat.le_refl _) _
    have HM : Hid ((w.alloc (.cells (madeCells #[.int .u8 0] l) 5)).heap[w.heap.size]? = some (.cells (bcells (half ys l 0)).toArray 5 (0, 0))) := by
      have := made_block w l
      unfold Hid
      rw [this, half_zero, bcells, List.map_replicate]
    go_enter Try.func30, Try.ntmps30
    go_wp2
    clear hne hmk
    go_loopw [4] (fun i wr => ∃ k : Nat, k ≤ l ∧ i = .int .i64 k ∧ Hid (wr.heap[w.heap.size]? = some (.cells (bcells (half ys l k)).toArray 5 (0, 0))) ∧ Below w.heap.size w wr) (fun i _ => l - (intOf i).toNat)
    case atStart => exact ⟨0, by omega, rfl, HM.out, HB0.out⟩
    case round =>
      clear HM HB0
      obtain ⟨k, hk, rfl, H, hb⟩ := hrel
      by_cases hlt : k < l
      · obtain ⟨b, off, e, hbl, hc⟩ := (hv.carry hb).at_ (by omega)
        obtain rfl : ad = ⟨b, off, none⟩ := by simpa using e
        have hx := hc k hlt
        have hst := half_set HL.out hlt
        obtain ⟨x, hX⟩ : ∃ x, x = ys.getD k 0 := ⟨_, rfl⟩
        rw [← hX] at hx hst
        have hd := cell_of_bcells H.out k (by rw [half_length HL.out hk]; exact hlt)
        have hfz : wr.frozen? ⟨w.heap.size, k, none⟩ = false := by have := H.out; simp [World.frozen?, this]
        have HN : Hid ((wr.setCell ⟨w.heap.size, k, none⟩ (.int .u8 x)).heap[w.heap.size]? = some (.cells (bcells (half ys l (k + 1))).toArray 5 (0, 0))) := by
          unfold Hid; rw [chk_modify H.out, hst]
        have HB : Hid (Below w.heap.size w (wr.setCell ⟨w.heap.size, k, none⟩ (.int .u8 x))) := hb.setCell (Nat.le_refl _) _
        clear hc e hst hX H
        go_wp2
        go_roundw
        case rel => exact ⟨k + 1, by omega, by go_num, HN.out, HB.out⟩
        case measure => simp [intOf]; omega
      · obtain rfl : k = l := by omega
        have hH := H.out
        rw [half_all HL.out] at hH
        go_wp2
        go_ret
        exact ⟨_, w.heap.size, _, rfl, ⟨HL.out, fun _ => rfl, fun j hj => cell_of_bcells hH j (by rw [HL.out]; exact hj), by omega⟩, fun _ => lt_of_block hH, Nat.le_refl _, hb⟩

end Go.Proofs.Qxb6600868a
