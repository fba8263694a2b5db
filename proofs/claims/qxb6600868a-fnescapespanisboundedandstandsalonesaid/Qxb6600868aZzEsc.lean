import Derived.Test.Qxb6600868aEsc
namespace Go.Proofs.Qxb6600868a
open Go.RowKit Pl

theorem St.boxed {w : World} {a : Option Addr} {g n : Nat} {zs : List Int} (h : Txt w a g n zs) (hg : 0 < n → g < w.heap.size) (cap : Nat) {i : Nat} (hi : i ≤ n) :
    St (w.alloc (.cells #[.slice a n cap, .int .i64 i, .bool false, .bool false, .int .i64 0] 49)) w.heap.size a g n cap zs i false ∧
    Below w.heap.size w (w.alloc (.cells #[.slice a n cap, .int .i64 i, .bool false, .bool false, .int .i64 0] 49)) := by
  have hb : Below w.heap.size w (w.alloc (.cells #[.slice a n cap, .int .i64 i, .bool false, .bool false, .int .i64 0] 49)) := (Below.refl _ _).alloc (Nat.le_refl _) _
  exact ⟨⟨heap_alloc_new w _, h.carry hb hg, hg, hi⟩, hb⟩

set_option maxHeartbeats 400000 in
theorem zzesc_any {w : World} {a : Option Addr} {g n cap : Nat} {zs : List Int} {i : Nat} (h : Txt w a g n zs) (hg : 0 < n → g < w.heap.size) (hi : i < n) :
    Calls Try.prog 23 #[.slice a n cap, .int .i64 i] w fun e w' => e = .returned (.tuple #[.int .i64 (esc zs i).1, .bool (esc zs i).2]) ∧ Below w.heap.size w w' := by
  have HS : Hid _ := (St.boxed h hg cap (Nat.le_of_lt hi)).1
  have HB : Hid _ := (St.boxed h hg cap (Nat.le_of_lt hi)).2
  clear h hg
  go_enter Try.func23, Try.ntmps23
  go_wp2_with fail
  refine (esc_any HS.out hi).mono ?_
  rintro e w' ⟨rfl, hs, hb⟩
  have h1 := hs.chk.c1
  have HB2 : Hid _ := HB.out.trans hb
  clear hs hb HS HB
  go_wp2
  go_ret2
  exact ⟨rfl, HB2.out⟩

end Go.Proofs.Qxb6600868a
