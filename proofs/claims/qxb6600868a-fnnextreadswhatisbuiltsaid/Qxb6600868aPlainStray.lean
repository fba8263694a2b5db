/-
  A stray byte behind white space: next refuses it there.
-/
import Derived.Test.Qxb6600868aPlainNext
namespace Go.Proofs.Qxb6600868a.Pl

def AllSp (l : List Int) : Prop := ∀ x ∈ l, isSp x = true
theorem allSp_snoc {ds : List Int} {x : Int} (h : AllSp ds) (hx : isSp x = true) : AllSp (ds ++ [x]) := by
  intro y hy
  rcases List.mem_append.1 hy with hy | hy
  · exact h y hy
  · simp at hy; rw [hy]; exact hx
/-- The list does not begin with white space. -/
def NoSp (t : List Int) : Prop := ∀ x l, t = x :: l → isSp x = false
theorem NoSp.sps {t : List Int} (h : NoSp t) : sps t = 0 := by
  cases t with
  | nil => rfl
  | cons x l => rw [Pl.sps, if_neg (by rw [h x l rfl]; simp)]
theorem sps_app {ds t : List Int} (h : AllSp ds) (ht : NoSp t) : sps (ds ++ t) = ds.length := by
  induction ds with
  | nil => simpa using ht.sps
  | cons x ds ih =>
    have hx := h x (by simp)
    rw [List.cons_append, Pl.sps, if_pos hx, ih (fun y hy => h y (by simp [hy]))]; simp
/-- Behind a part pre of the text: the white space ws, then t. -/
theorem skip_app {pre ws t : List Int} (h : AllSp ws) (ht : NoSp t) : skip (pre ++ (ws ++ t)) pre.length = pre.length + ws.length := by
  unfold skip spAt
  rw [List.drop_left, sps_app h ht]
theorem skipSp_app {pre ws t : List Int} (sp : Bool) (h : AllSp ws) (ht : NoSp t) : skipSp (pre ++ (ws ++ t)) pre.length sp = (sp || decide (0 < ws.length)) := by
  unfold skipSp spAt
  rw [List.drop_left, sps_app h ht]

def Stray (o : Int) (t : List Int) : Prop := ∀ x l, t = x :: l → isSp x = false ∧ x ≠ 44 ∧ x ≠ closer o

theorem next_stray {ws t op : List Int} {m : Nat} (h : AllSp ws) (ht : Stray (op.getD m 0) t) : nextF (ws ++ t) op (m + 1) 0 false = ⟨m + 1, ws.length, false, decide (0 < ws.length)⟩ := by
  have hn : NoSp t := fun x l e => (ht x l e).1
  have h1 := skip_app (pre := []) h hn
  have h2 := skipSp_app (pre := []) false h hn
  simp only [List.nil_append, List.length_nil, Nat.zero_add, Bool.false_or] at h1 h2
  rw [nextF, h1, h2]
  cases t with
  | nil => rw [if_neg (by simp)]
  | cons x l =>
    obtain ⟨_, h44, hc⟩ := ht x l rfl
    have hg : ((ws ++ x :: l).getD ws.length 0) = x := by simp [List.getD_eq_getElem?_getD]
    have e1 : atB (ws ++ x :: l) ws.length 44 = false := by unfold atB; rw [hg]; simp [h44]
    have e2 : atB (ws ++ x :: l) ws.length (closer (op.getD m 0)) = false := by unfold atB; rw [hg]; exact decide_eq_false (fun h => hc h.2)
    rw [if_pos (by simp), e1, if_neg (by simp), e2, if_neg (by simp)]

end Go.Proofs.Qxb6600868a.Pl
