/-
  Numbers as they are written: the number step passes over them whole.
-/
import Derived.Test.Qxb6600868aPlainAuto
namespace Go.Proofs.Qxb6600868a.Pl

def AllDig (l : List Int) : Prop := ∀ x ∈ l, isDig x = true
def Sgn (l : List Int) : Prop := l = [] ∨ l = [45]
def Wh (l : List Int) : Prop := l = [48] ∨ ∃ d ds, l = d :: ds ∧ 49 ≤ d ∧ d ≤ 57 ∧ AllDig ds
def Fr (l : List Int) : Prop := l = [] ∨ ∃ ds, l = 46 :: ds ∧ ds ≠ [] ∧ AllDig ds
def ExS (l : List Int) : Prop := l = [] ∨ l = [43] ∨ l = [45]
def Ex (l : List Int) : Prop := l = [] ∨ ∃ e sg ds, l = e :: (sg ++ ds) ∧ (e = 101 ∨ e = 69) ∧ ExS sg ∧ ds ≠ [] ∧ AllDig ds
def OkT (t : List Int) : Prop := ∀ x l, t = x :: l → isDig x = false ∧ x ≠ 46 ∧ x ≠ 101 ∧ x ≠ 69

theorem allDig_snoc {ds : List Int} {x : Int} (h : AllDig ds) (hx : isDig x = true) : AllDig (ds ++ [x]) := by
  intro y hy
  rcases List.mem_append.1 hy with hy | hy
  · exact h y hy
  · simp at hy; rw [hy]; exact hx
theorem isDig_of {x : Int} (h1 : 48 ≤ x) (h2 : x ≤ 57) : isDig x = true := by simp [isDig, h1, h2]

/-- The list does not begin with a digit. -/
def NoDig (t : List Int) : Prop := dg t = 0
theorem dg_app {ds t : List Int} (h : AllDig ds) (ht : dg t = 0) : dg (ds ++ t) = ds.length := by
  induction ds with
  | nil => simpa using ht
  | cons x ds ih =>
    have hx := h x (by simp)
    rw [List.cons_append, dg_yes hx, ih (fun y hy => h y (by simp [hy]))]; simp
theorem OkT.dg {t : List Int} (h : OkT t) : dg t = 0 := by
  cases t with
  | nil => rfl
  | cons x l => exact dg_no (by rw [(h x l rfl).1]; simp)
theorem OkT.hd {t : List Int} (h : OkT t) (b : Int) (hb : b = 46 ∨ b = 101 ∨ b = 69) : hd t b = false := by
  cases t with
  | nil => rfl
  | cons x l =>
    obtain ⟨_, h1, h2, h3⟩ := h x l rfl
    simp [Pl.hd]; omega
theorem ne_len {ds : List Int} (h : ds ≠ []) : ds.length ≠ 0 := fun e => h (List.eq_nil_of_length_eq_zero e)

theorem expDig_app {ds t : List Int} (h : AllDig ds) (hn : ds ≠ []) (ht : OkT t) : expDigL (ds ++ t) = (ds.length, true) := by
  unfold expDigL
  rw [dg_app h ht.dg, if_neg (ne_len hn)]
theorem exp_app {ex t : List Int} (h : Ex ex) (ht : OkT t) : numExpL (ex ++ t) = (ex.length, true) ∧ dg (ex ++ t) = 0 ∧ hd (ex ++ t) 46 = false := by
  rcases h with rfl | ⟨e, sg, ds, rfl, he, hsg, hne, hds⟩
  · refine ⟨?_, ht.dg, ht.hd 46 (by simp)⟩
    unfold numExpL
    rw [List.nil_append, ht.hd 101 (by simp), ht.hd 69 (by simp)]; rfl
  · have hde : ¬ isDig e = true := by simp [isDig]; omega
    refine ⟨?_, dg_no hde, by simp [hd]; omega⟩
    unfold numExpL
    rw [if_pos (by simpa [hd] using he)]
    show plus 1 (expTailL (sg ++ ds ++ t)) = _
    unfold expTailL
    rcases hsg with rfl | rfl | rfl
    · have hh : (hd ([] ++ ds ++ t) 43 || hd ([] ++ ds ++ t) 45) = false := by
        match ds, hne with
        | d :: ds, _ =>
          have := dig_not (hds d (by simp))
          simp [hd]; omega
      rw [hh, if_neg (by simp)]
      rw [List.nil_append, expDig_app hds hne ht]; simp [plus, Nat.add_comm]
    · rw [if_pos (by simp [hd])]
      show plus 1 (plus 1 (expDigL (ds ++ t))) = _
      rw [expDig_app hds hne ht]; simp [plus]; omega
    · rw [if_pos (by simp [hd])]
      show plus 1 (plus 1 (expDigL (ds ++ t))) = _
      rw [expDig_app hds hne ht]; simp [plus]; omega
theorem frac_app {fr ex t : List Int} (h : Fr fr) (he : Ex ex) (ht : OkT t) : numFracL (fr ++ (ex ++ t)) = (fr.length + ex.length, true) ∧ dg (fr ++ (ex ++ t)) = 0 := by
  obtain ⟨h1, h2, h3⟩ := exp_app he ht
  rcases h with rfl | ⟨ds, rfl, hne, hds⟩
  · refine ⟨?_, h2⟩
    unfold numFracL
    rw [List.nil_append, h3, if_neg (by simp), h1]; simp
  · refine ⟨?_, dg_no (by simp [isDig])⟩
    unfold numFracL
    rw [if_pos (by simp [hd])]
    show plus 1 (fracDigL (ds ++ (ex ++ t))) = _
    unfold fracDigL
    rw [dg_app hds h2, if_neg (ne_len hne), List.drop_left, h1]
    simp [plus]; omega
theorem int_app {wh fr ex t : List Int} (hw : Wh wh) (h : Fr fr) (he : Ex ex) (ht : OkT t) : numIntL (wh ++ (fr ++ (ex ++ t))) = (wh.length + (fr.length + ex.length), true) ∧ hd (wh ++ (fr ++ (ex ++ t))) 45 = false := by
  obtain ⟨h1, h2⟩ := frac_app h he ht
  rcases hw with rfl | ⟨d, ds, rfl, hd1, hd2, hds⟩
  · refine ⟨?_, by simp [hd]⟩
    unfold numIntL
    rw [if_pos (by simp [hd])]
    show plus 1 (numFracL (fr ++ (ex ++ t))) = _
    rw [h1]; simp [plus]
  · have hdd : isDig d = true := isDig_of (by omega) hd2
    have hall : AllDig (d :: ds) := by
      intro y hy
      rcases List.mem_cons.1 hy with rfl | hy
      · exact hdd
      · exact hds y hy
    refine ⟨?_, by simp [hd]; omega⟩
    unfold numIntL
    rw [if_neg (by simp [hd]; omega), dg_app hall h2, if_neg (by simp), List.drop_left, h1]
    simp [plus]
theorem num_app {sg wh fr ex t : List Int} (hs : Sgn sg) (hw : Wh wh) (h : Fr fr) (he : Ex ex) (ht : OkT t) : num (sg ++ wh ++ fr ++ ex ++ t) 0 = ((sg ++ wh ++ fr ++ ex).length, true) := by
  obtain ⟨h1, h2⟩ := int_app hw h he ht
  have e : sg ++ wh ++ fr ++ ex ++ t = sg ++ (wh ++ (fr ++ (ex ++ t))) := by simp
  rw [num_eq, List.drop_zero, plus_zero, e]
  unfold numL
  rcases hs with rfl | rfl
  · rw [List.nil_append, h2, if_neg (by simp), h1]; simp
  · rw [if_pos (by simp [hd])]
    show plus 1 (numIntL (wh ++ (fr ++ (ex ++ t)))) = _
    rw [h1]; simp [plus]; omega

end Go.Proofs.Qxb6600868a.Pl
