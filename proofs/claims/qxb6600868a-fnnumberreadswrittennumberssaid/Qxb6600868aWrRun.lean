import Derived.Test.Qxb6600868aAuto
import Derived.Test.Qxb6600868aBuild
import Derived.Test.Qxb6600868aPlainWr
namespace Go.Proofs.Qxb6600868a
open Go.RowKit Pl

theorem View.byteAt {w : World} {a : Option Addr} {m cap : Nat} {ys : List Int} (h : View w a m cap ys) (k : Nat) : 0 ≤ ys.getD k 0 ∧ ys.getD k 0 ≤ 255 := by
  by_cases hk : k < ys.length
  · rw [List.getD_eq_getElem?_getD, List.getElem?_eq_getElem hk]
    exact h.byte _ (List.getElem_mem hk)
  · rw [List.getD_eq_getElem?_getD, List.getElem?_eq_none (by omega)]; simp

set_option maxRecDepth 100000 in
set_option maxHeartbeats 1000000 in
theorem run_any {w0 w : World} {ad : Option Addr} {n cap : Nat} {zs : List Int} (hb : Bt w0 w ad n cap zs) {a1 : Option Addr} {l1 c1 : Nat} {ys : List Int} (hv : View w0 a1 l1 c1 ys) (hn : n ≤ 2000000) (hl : l1 ≤ 300000) :
    Calls Try.prog 19 #[.slice ad n cap, .slice a1 l1 c1] w fun e w' => ∃ (ad' : Option Addr) (n' cap' : Nat) (ds : List Int), e = .returned (.slice ad' n' cap') ∧ Bt w0 w' ad' n' cap' (zs ++ ds) ∧ ds ≠ [] ∧ AllDig ds ∧ n' ≤ n + (l1 + 1) := by
  by_cases h0 : l1 = 0
  · have h0' : ((l1 : Int) == 0) = true := by simpa using h0
    go_enter Try.func19, Try.ntmps19
    go_wp2_with (at_builtin; go_must (refine wpList_push rfl (.tmp 9) (.tmp 10) rfl _ _ _ _ hb rfl 1 [48] rfl rfl (by omega) _ _ rfl rfl ?_); intro ad' cap' w' hb')
    go_ret
    exact ⟨ad', n + 1, cap', [48], rfl, hb', by simp, by intro x hx; simp at hx; rw [hx]; rfl, by omega⟩
  · have h0' : ((l1 : Int) == 0) = false := by simpa using h0
    go_enter Try.func19, Try.ntmps19
    go_wp2_with fail
    go_loopw [0, 5] (fun t i wr => ∃ (k : Nat) (ad' : Option Addr) (cap' : Nat) (ds : List Int), k ≤ l1 ∧ i = .int .i64 k ∧ t = .slice ad' (n + k) cap' ∧ Bt w0 wr ad' (n + k) cap' (zs ++ ds) ∧ Hid (ds.length = k) ∧ AllDig ds) (fun _ i _ => l1 - (intOf i).toNat)
    case atStart => exact ⟨0, ad, cap, [], by omega, rfl, rfl, by simpa using hb, rfl, fun x hx => by simp at hx⟩
    case round =>
      clear hb
      obtain ⟨k, ad', cap', ds, hk, rfl, rfl, hb, HL, hds⟩ := hrel
      by_cases hlt : k < l1
      · obtain ⟨b, off, rfl, _, hc⟩ := (hv.carry hb.bel).at_ (by omega)
        have hx := hc k hlt
        obtain ⟨hy0, hy1⟩ := hv.byteAt k
        generalize ys.getD k 0 = y at hx hy0 hy1
        clear hc
        go_wp2_with (at_builtin; go_must (refine wpList_push rfl (.tmp 18) (.tmp 25) rfl _ _ _ _ hb rfl 1 [_] rfl rfl (by omega) (n + (k + 1)) _ rfl rfl ?_); intro ad2 cap2 w2 hb2)
        go_roundw
        case rel =>
          refine ⟨k + 1, ad2, cap2, ds ++ [48 + y % 10], by omega, by go_num, rfl, by rw [← List.append_assoc]; exact hb2, by simp [Hid, HL.out], allDig_snoc hds (isDig_of (by omega) (by omega))⟩
        case measure => simp [intOf]; omega
      · go_wp2_with fail
        go_ret
        exact ⟨ad', n + k, cap', ds, rfl, hb, fun e => by have := HL.out; rw [e] at this; simp at this; omega, hds, by omega⟩

end Go.Proofs.Qxb6600868a
