import Derived.Test.Qxb6600868aStray
import Derived.Test.Qxb6600868aPlainQuote
namespace Go.Proofs.Qxb6600868a
open Go.RowKit Pl

/-- What nxGap leaves: white space gs behind the text; the place in ws. -/
structure Gap (w0 w' : World) (ad : Option Addr) (n cap : Nat) (zs gs : List Int) (p p' l : Nat) : Prop where
  bt : Bt w0 w' ad n cap (zs ++ gs)
  sp : AllSp gs
  ge : p ≤ p'
  le : p' ≤ l
  few : gs.length + p ≤ p'

set_option maxRecDepth 100000 in
set_option maxHeartbeats 1000000 in
theorem gap_any {w0 w : World} {ad : Option Addr} {n cap : Nat} {zs : List Int} (hb : Bt w0 w ad n cap zs) {a : Option Addr} {l c : Nat} {ys : List Int} (hv : View w0 a l c ys) {p : Nat} (hp : p ≤ l) (hn : n + l ≤ 4000000 + p) (hl : l ≤ 131072) :
    Calls Try.prog 31 #[.slice ad n cap, .slice a l c, .int .i64 p] w fun e w' => ∃ (ad' : Option Addr) (n' cap' p' : Nat) (gs : List Int),
      e = .returned (.tuple #[.slice ad' n' cap', .int .i64 p', .bool (decide (0 < gs.length))]) ∧ Gap w0 w' ad' n' cap' zs gs p p' l := by
  go_enter Try.func31, Try.ntmps31
  go_wp2
  go_loopg [0, 2, 9] (l - p) (fun m t i s wr => ∃ (k : Nat) (ad' : Option Addr) (n' cap' : Nat) (gs : List Int), m = l - k ∧ i = .int .i64 k ∧ t = .slice ad' n' cap' ∧ s = .bool (decide (0 < gs.length)) ∧ n' ≤ n + (k - p) ∧ Gap w0 wr ad' n' cap' zs gs p k l)
  case atStart => exact ⟨p, ad, n, cap, [], rfl, rfl, rfl, rfl, by omega, ⟨by simpa using hb, fun x hx => by simp at hx, Nat.le_refl _, hp, by simp⟩⟩
  case round =>
    clear hb
    obtain ⟨k, ad', n', cap', gs, hm, rfl, rfl, rfl, hn', hG⟩ := hrel
    have hkl := hG.le
    have hkp := hG.ge
    obtain ⟨d, hd⟩ : ∃ d, d = decide (0 < gs.length) := ⟨_, rfl⟩
    rw [← hd]
    have HD : Hid (d = decide (0 < gs.length)) := hd
    have HM : Hid (gk = l - k) := hm
    clear hd hm
    by_cases hlt : k < l
    · obtain ⟨b, off, rfl, _, hc⟩ := (hv.carry hG.bt.bel).at_ (by omega)
      have hx := hc k hlt
      generalize ys.getD k 0 = x at hx
      clear hc
      have hlt' : (k : Int) < (l : Int) := by omega
      by_cases h128 : 128 ≤ x
      · go_wp2_with fail
        go_ret3
        exact ⟨ad', n', cap', k + 1, gs, by rw [HD.out]; rfl, ⟨hG.bt, hG.sp, by omega, by omega, by have := hG.few; omega⟩⟩
      · have hG2 := hG.bt
        go_wp2_with (first
          | (go_at_call 36; refine (kind_any _ _).mono ?_; rintro e w' ⟨y, rfl, hy, hw⟩; subst w')
          | (at_builtin; refine wpList_push (w0 := w0) rfl (.tmp 26) (.tmp 29) rfl _ _ _ _ hG2 rfl 1 [_] rfl rfl (by omega) (n' + 1) _ rfl rfl ?_; intro ad2 cap2 w2 hb2))
        go_roundg (l - (k + 1))
        case measure => have := HM.out; omega
        case rel => exact ⟨k + 1, ad2, n' + 1, cap2, gs ++ [y], rfl, by go_num, rfl, by simp, by omega, ⟨by rw [← List.append_assoc]; exact hb2, allSp_snoc hG.sp hy, by omega, by omega, by have := hG.few; simp; omega⟩⟩
    · have hlt' : ¬ (k : Int) < (l : Int) := by omega
      go_wp2_with fail
      go_ret3
      exact ⟨ad', n', cap', k, gs, by rw [HD.out]; rfl, hG⟩

/-- The letter of a byte's one-letter escape, or 0. -/
theorem short_any (x : Int) (w : World) : Calls Try.prog 40 #[.int .u8 x] w fun e w' => ∃ y : Int, e = .returned (.int .u8 y) ∧ (y = 0 ∨ isEsc y = true) ∧ w' = w := by
  go_enter Try.func40, Try.ntmps40
  go_wp2
  all_goals
    go_ret
    exact ⟨_, rfl, by first | (left; rfl) | (right; rfl), rfl⟩

end Go.Proofs.Qxb6600868a
