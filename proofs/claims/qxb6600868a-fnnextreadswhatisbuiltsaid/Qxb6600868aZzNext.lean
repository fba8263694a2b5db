import Derived.Test.Qxb6600868aNext
namespace Go.Proofs.Qxb6600868a
open Go.RowKit Pl

set_option maxHeartbeats 1000000 in
theorem zznext_any {w : World} {a : Option Addr} {g n cap : Nat} {zs : List Int} {i : Nat} (h : Txt w a g n zs) (hg : 0 < n → g < w.heap.size) (hi : i ≤ n)
    {ao : Option Addr} {go mo capo : Nat} {op : List Int} (ho : Txt w ao go mo op) (hgo : 0 < mo → go < w.heap.size) (hco : mo ≤ capo) :
    Calls Try.prog 34 #[.slice a n cap, .int .i64 i, .slice ao mo capo] w fun e w' =>
      e = .returned (.tuple #[.slice ao (nextF zs op mo i false).left capo, .int .i64 (nextF zs op mo i false).at_, .bool (nextF zs op mo i false).ok, .bool (nextF zs op mo i false).sp]) ∧ Below w.heap.size w w' := by
  have hS := (St.boxed h hg cap hi).1
  have HB : Hid _ := (St.boxed h hg cap hi).2
  have ho2 := ho.carry HB.out hgo
  clear h hg ho
  go_enter Try.func34, Try.ntmps34
  go_wp2_with fail
  refine (next_any hS ho2 hgo hco).mono ?_
  rintro e w' ⟨rfl, hs, hb⟩
  have h1 := hs.chk.c1
  have h3 := hs.chk.c3
  have HB2 : Hid (Below w.heap.size w w') := HB.out.trans hb
  clear hs hb hS HB ho2
  go_wp2
  go_quiet (fail)
  go_wp2
  refine bodyPost_ret (v := .tuple #[.slice ao (nextF zs op mo i false).left capo, .int .i64 (nextF zs op mo i false).at_, .bool (nextF zs op mo i false).ok, .bool (nextF zs op mo i false).sp]) (by simp [results, Try.results34, go_sem]) rfl ⟨rfl, ?_⟩
  exact HB2.out.trans (below_drewN _)

end Go.Proofs.Qxb6600868a
