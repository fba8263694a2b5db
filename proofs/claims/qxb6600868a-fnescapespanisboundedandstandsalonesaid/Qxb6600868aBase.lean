/-
  The checker's block and the text that it reads: what the walks carry from call to call. The small functions' contracts.
-/
import Derived.Test.Qxb6600868aProg
import Derived.Test.Qxb6600868aPlain
import Derived.WalkKit
import Derived.WalkSpells
import Derived.WalkLawsBesides
import Derived.OpenShut
import Derived.Deep.QuietTactic
import Derived.BigQuiet
import Derived.Deep.LoopGhost
import Derived.Deep.DeepCutAuto
import Derived.Laws.CopyOwn
import Derived.Deep.OwnRows
namespace Go.Proofs.Qxb6600868a
open Go.RowKit Pl

/-- The checker's block: the text's slice, the place, valid, spaced, deepest. -/
def ChkAt (w : World) (c : Nat) (a : Option Addr) (n cap : Nat) (i : Nat) (sp : Bool) : Prop :=
  w.heap[c]? = some (.cells #[.slice a n cap, .int .i64 i, .bool false, .bool sp, .int .i64 0] 49 (0, 0))

/-- A text of n bytes zs: its slice has the address a; the bytes lie at the head of block g. -/
structure Txt (w : World) (a : Option Addr) (g n : Nat) (zs : List Int) : Prop where
  len : zs.length = n
  addr : 0 < n → a = some ⟨g, 0, none⟩
  cell : ∀ k, k < n → w.cell? ⟨g, k, none⟩ = some (.int .u8 (zs.getD k 0))
  small : n ≤ 4194304

structure St (w : World) (c : Nat) (a : Option Addr) (g n cap : Nat) (zs : List Int) (i : Nat) (sp : Bool) : Prop where
  chk : ChkAt w c a n cap i sp
  txt : Txt w a g n zs
  lt : 0 < n → g < c
  le : i ≤ n

theorem Txt.carry {w w' : World} {a : Option Addr} {g n B : Nat} {zs : List Int} (h : Txt w a g n zs) (hb : Below B w w') (hg : 0 < n → g < B) : Txt w' a g n zs :=
  ⟨h.len, h.addr, fun k hk => (hb.cell (p := ⟨g, k, none⟩) (hg (by omega))).trans (h.cell k hk), h.small⟩

theorem ChkAt.c0 {w : World} {c : Nat} {a : Option Addr} {n cap i : Nat} {sp : Bool} (h : ChkAt w c a n cap i sp) : w.cell? ⟨c, 0, none⟩ = some (.slice a n cap) := by unfold ChkAt at h; simp [World.cell?, h]
theorem ChkAt.c1 {w : World} {c : Nat} {a : Option Addr} {n cap i : Nat} {sp : Bool} (h : ChkAt w c a n cap i sp) : w.cell? ⟨c, 1, none⟩ = some (.int .i64 i) := by unfold ChkAt at h; simp [World.cell?, h]
theorem ChkAt.c3 {w : World} {c : Nat} {a : Option Addr} {n cap i : Nat} {sp : Bool} (h : ChkAt w c a n cap i sp) : w.cell? ⟨c, 3, none⟩ = some (.bool sp) := by unfold ChkAt at h; simp [World.cell?, h]
theorem ChkAt.free {w : World} {c : Nat} {a : Option Addr} {n cap i : Nat} {sp : Bool} (h : ChkAt w c a n cap i sp) (k : Nat) : w.frozen? ⟨c, k, none⟩ = false := by unfold ChkAt at h; simp [World.frozen?, h]
theorem ChkAt.drewN {w : World} {c : Nat} {a : Option Addr} {n cap i : Nat} {sp : Bool} (h : ChkAt w c a n cap i sp) (m : Nat) : ChkAt (w.drewN m) c a n cap i sp := by
  unfold ChkAt at h ⊢; simpa using h

theorem chk_modify {w : World} {c k : Nat} {v : Value} {cs : Array Value} {t : TypeId} (h : w.heap[c]? = some (.cells cs t (0, 0))) : (w.setCell ⟨c, k, none⟩ v).heap[c]? = some (.cells (cs.setIfInBounds k v) t (0, 0)) := by
  have hlt := lt_of_block h
  have h' : w.heap[c] = .cells cs t (0, 0) := by simpa [Array.getElem?_eq_getElem hlt] using h
  show (w.heap.modify c _)[c]? = _
  rw [Array.getElem?_eq_getElem (by simpa using hlt), Array.getElem_modify_self, h']
  rfl
theorem ChkAt.set1 {w : World} {c : Nat} {a : Option Addr} {n cap i : Nat} {sp : Bool} (h : ChkAt w c a n cap i sp) (j : Nat) : ChkAt (w.setCell ⟨c, 1, none⟩ (.int .i64 j)) c a n cap j sp := by
  unfold ChkAt at h ⊢; rw [chk_modify h]; rfl
theorem ChkAt.set3 {w : World} {c : Nat} {a : Option Addr} {n cap i : Nat} {sp : Bool} (h : ChkAt w c a n cap i sp) (q : Bool) : ChkAt (w.setCell ⟨c, 3, none⟩ (.bool q)) c a n cap i q := by
  unfold ChkAt at h ⊢; rw [chk_modify h]; rfl
/-- The checker moves on by one. -/
theorem St.step {w : World} {c : Nat} {a : Option Addr} {g n cap : Nat} {zs : List Int} {i : Nat} {sp : Bool} (h : St w c a g n cap zs i sp) (hlt : i < n) :
    St (w.setCell ⟨c, 1, none⟩ (.int .i64 ((i : Int) + 1))) c a g n cap zs (i + 1) sp ∧ Below c w (w.setCell ⟨c, 1, none⟩ (.int .i64 ((i : Int) + 1))) := by
  have hb : Below c w (w.setCell ⟨c, 1, none⟩ (.int .i64 ((i : Int) + 1))) := (Below.refl c w).setCell (Nat.le_refl _) _
  exact ⟨⟨by simpa using h.chk.set1 (i + 1), h.txt.carry hb h.lt, h.lt, by omega⟩, hb⟩
theorem St.spaced {w : World} {c : Nat} {a : Option Addr} {g n cap : Nat} {zs : List Int} {i : Nat} {sp : Bool} (h : St w c a g n cap zs i sp) :
    St (w.setCell ⟨c, 3, none⟩ (.bool true)) c a g n cap zs i true ∧ Below c w (w.setCell ⟨c, 3, none⟩ (.bool true)) := by
  have hb : Below c w (w.setCell ⟨c, 3, none⟩ (.bool true)) := (Below.refl c w).setCell (Nat.le_refl _) _
  exact ⟨⟨h.chk.set3 true, h.txt.carry hb h.lt, h.lt, h.le⟩, hb⟩
theorem below_drewN {B : Nat} {w : World} (m : Nat) : Below B w (w.drewN m) := ⟨rfl, rfl, rfl, Nat.le_refl _, fun _ _ => rfl⟩
theorem St.drewN {w : World} {c : Nat} {a : Option Addr} {g n cap : Nat} {zs : List Int} {i : Nat} {sp : Bool} (h : St w c a g n cap zs i sp) (m : Nat) :
    St (w.drewN m) c a g n cap zs i sp := ⟨h.chk.drewN m, h.txt.carry (below_drewN m) h.lt, h.lt, h.le⟩
theorem St.drew {w : World} {c : Nat} {a : Option Addr} {g n cap : Nat} {zs : List Int} {i : Nat} {sp : Bool} (h : St w c a g n cap zs i sp) :
    St w.drew c a g n cap zs i sp := ⟨h.chk, h.txt.carry ((Below.refl c w).drew) h.lt, h.lt, h.le⟩

theorem ret_bool {a b : Bool} (h : a = b) : Ending.returned (.bool a) = .returned (.bool b) := by rw [h]
theorem ret_int {k : IntKind} {a b : Int} (h : a = b) : Ending.returned (.int k a) = .returned (.int k b) := by rw [h]

theorem isHex_any (x : Int) (w : World) : Calls Try.prog 44 #[.int .u8 x] w fun e w' => e = .returned (.bool (isHex x)) ∧ w' = w := by
  go_enter Try.func44, Try.ntmps44
  go_wp2
  all_goals
    go_ret
    exact ⟨ret_bool (by rw [Bool.eq_iff_iff]; simp [isHex]; omega), rfl⟩

theorem isSp_any (x : Int) (w : World) : Calls Try.prog 48 #[.int .u8 x] w fun e w' => e = .returned (.bool (isSp x)) ∧ w' = w := by
  go_enter Try.func48, Try.ntmps48
  go_wp2
  all_goals
    go_ret
    exact ⟨ret_bool (by first | (subst x; rfl) | (rw [Bool.eq_iff_iff]; simp [isSp]; omega)), rfl⟩

theorem closer_any (x : Int) (w : World) : Calls Try.prog 47 #[.int .u8 x] w fun e w' => e = .returned (.int .u8 (closer x)) ∧ w' = w := by
  go_enter Try.func47, Try.ntmps47
  go_wp2
  · go_ret
    have h : (x == 123) = true := by assumption
    simp at h
    exact ⟨ret_int (by simp [closer, h]), rfl⟩
  · go_ret
    have h : (x == 123) = false := by assumption
    simp at h
    exact ⟨ret_int (by simp [closer, h]), rfl⟩

end Go.Proofs.Qxb6600868a
