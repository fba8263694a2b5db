/-
  The statement 'Rows.FnNextRefusesAStrayByteSaid', out of the walk in the texts that it imports. The frame is the kit's shell for this function; the row's closed facts are laid as theorems of their own.
-/
import Derived.Test.Qxb6600868aRows
import Derived.Test.Qxb6600868aFacts
import Derived.Test.Qxb6600868aJoined
import Derived.Test.Qxb6600868aStray
import Derived.WalkKit
import Derived.ProofKit
import Derived.OpenShut
import Derived.ShutString
import Derived.ChangeOld
import Derived.Below
namespace Go.Proofs.Qxb6600868a.fnNextRefusesAStrayByte
open Go.ChangeShapes Go.WideShapes Go.ChangeAt Go.RowKit
open Go.ChangeMaps (open_string shut_string)
set_option linter.unusedVariables false

theorem own : ownKnob Try.prog.godebug = none := by kernel_rfl
theorem laidOut : laidOutB Try.prog = true := by kernel_rfl

/-- WHAT THE WALK IS TOLD OF A SLICE OF INTEGERS THAT CAME IN: it is nil; or it leads to a row of 'cap' cells, the numbers 'zs' (the first 'len' are its elements, the rest its spare room), each fitting its kind. -/
def IsRow (k : IntKind) (w : World) (a : Option Addr) (len cap : Nat) (zs : List Int) : Prop :=
  (a = none ∧ len = 0 ∧ cap = 0 ∧ zs = []) ∨
  ∃ x, a = some x ∧ len ≤ cap ∧ cap ≤ maxLen ∧ zs.length = cap ∧ (∀ i, i < zs.length → w.cell? (x.add i) = some (.int k (zs.getD i 0))) ∧ ∀ n ∈ zs, (Lit.int k n).wf = true

/-! ### THE WALK -/
theorem walk (a0 : Option Addr) (len0 cap0 : Nat) (z0 : List Int) (a1 : Option Addr) (len1 cap1 : Nat) (z1 : List Int) (a2 : Option Addr) (len2 cap2 : Nat) (z2 : List Int) (w : World) (w0 : IsRow .u8 w a0 len0 cap0 z0) (w1 : IsRow .u8 w a1 len1 cap1 z1) (w2 : IsRow .u8 w a2 len2 cap2 z2) :
    Calls Try.prog 10 #[.slice a0 len0 cap0, .slice a1 len1 cap1, .slice a2 len2 cap2] w fun e w' => e = .returned (.bool true) ∧ Below w.heap.size w w' := by
  exact stray_walk a0 len0 cap0 z0 a1 len1 cap1 z1 a2 len2 cap2 z2 w w0 w1 w2

/-! ### THE ROW's STEP: WRITTEN OUT: LEAVE IT -/
set_option maxRecDepth 100000 in
theorem lifted (os : Os) (started : os.Started) (H : Type) (enc : TypeId × Value → H) :
    ReturnsInHanded {} Try.checked os 10 .any (Rows.fnNextRefusesAStrayByteSpec.pre6 enc Try.prog Try.f10 Rows.fnNextRefusesAStrayByteRow.domain false) (Rows.fnNextRefusesAStrayByteSpec.post enc Try.prog Try.f10 false true false false) := by
  refine returnsInHanded_of_change (C := Try.checked) own started (by kernel_rfl) Try.func10
    (ChangeSpec.witness6 (enc := enc) (C := Try.checked) false ⟨#[], #[.slice none 0 0, .slice none 0 0, .slice none 0 0], []⟩ 8 (by kernel_rfl) (by kernel_rfl) (by kernel_rfl) (by kernel_rfl)) ?_
  intro W base args ds gs before hval0 hW hcnd _
  have hval : ∀ (j : Nat) t v, Try.f10.params[j]? = some t → args[j]? = some v → Value.okWide Try.prog W .any base t v := hval0
  have hW' := hW
  obtain ⟨p, q, hA0, hV, rfl, hfz, hnd⟩ := hW
  have hA : DataW.TrodAll enc Try.prog W 0 (fun _ => true) true Try.f10.params.toList args.toList ds p := hA0
  rw [Try.params10] at hA hval
  obtain ⟨v0, vs0, d0, ds0, p0, q0, hargs, rfl, rfl, h0, r0⟩ := trodAll_cons hA
  obtain ⟨v1, vs1, d1, ds1, p1, q1, rfl, rfl, rfl, h1, r1⟩ := trodAll_cons r0
  obtain ⟨v2, vs2, d2, ds2, p2, q2, rfl, rfl, rfl, h2, r2⟩ := trodAll_cons r1
  obtain ⟨rfl, rfl, rfl⟩ := trodAll_nil r2
  obtain rfl : args = #[v0, v1, v2] := by cases args; simp_all
  obtain ⟨rfl, rfl⟩ := trodVars_none hV
  obtain ⟨a0, len0, cap0, rfl⟩ := okWide_slice Try.underlying22 (hval 0 22 v0 rfl rfl)
  have k0 := h0
  have lt0 : ∀ x ∈ p0, x.block < W.heap.size := by obtain ⟨m, hm⟩ := k0; exact DataW.trod_lt m _ _ _ hm
  obtain ⟨z0, w0⟩ : ∃ zs, IsRow .u8 W a0 len0 cap0 zs := by
    obtain ⟨fuel, hf⟩ := h0
    rcases open_ints Try.underlying22 Try.underlying5 (by kernel_rfl) hf with ⟨hcs, _⟩ | ⟨x, l, c, zs, hcs, _, hl, hm, hz, _, hcell, hwz⟩
    · simp [Value.cells] at hcs
      obtain ⟨rfl, rfl, rfl⟩ := hcs
      exact ⟨[], .inl ⟨rfl, rfl, rfl, rfl⟩⟩
    · simp [Value.cells] at hcs
      obtain ⟨rfl, rfl, rfl⟩ := hcs
      exact ⟨zs, .inr ⟨_, rfl, hl, hm, by simpa using hz, hcell, hwz⟩⟩
  obtain ⟨a1, len1, cap1, rfl⟩ := okWide_slice Try.underlying22 (hval 1 22 v1 rfl rfl)
  have k1 := h1
  have lt1 : ∀ x ∈ p1, x.block < W.heap.size := by obtain ⟨m, hm⟩ := k1; exact DataW.trod_lt m _ _ _ hm
  obtain ⟨z1, w1⟩ : ∃ zs, IsRow .u8 W a1 len1 cap1 zs := by
    obtain ⟨fuel, hf⟩ := h1
    rcases open_ints Try.underlying22 Try.underlying5 (by kernel_rfl) hf with ⟨hcs, _⟩ | ⟨x, l, c, zs, hcs, _, hl, hm, hz, _, hcell, hwz⟩
    · simp [Value.cells] at hcs
      obtain ⟨rfl, rfl, rfl⟩ := hcs
      exact ⟨[], .inl ⟨rfl, rfl, rfl, rfl⟩⟩
    · simp [Value.cells] at hcs
      obtain ⟨rfl, rfl, rfl⟩ := hcs
      exact ⟨zs, .inr ⟨_, rfl, hl, hm, by simpa using hz, hcell, hwz⟩⟩
  obtain ⟨a2, len2, cap2, rfl⟩ := okWide_slice Try.underlying22 (hval 2 22 v2 rfl rfl)
  have k2 := h2
  have lt2 : ∀ x ∈ p2, x.block < W.heap.size := by obtain ⟨m, hm⟩ := k2; exact DataW.trod_lt m _ _ _ hm
  obtain ⟨z2, w2⟩ : ∃ zs, IsRow .u8 W a2 len2 cap2 zs := by
    obtain ⟨fuel, hf⟩ := h2
    rcases open_ints Try.underlying22 Try.underlying5 (by kernel_rfl) hf with ⟨hcs, _⟩ | ⟨x, l, c, zs, hcs, _, hl, hm, hz, _, hcell, hwz⟩
    · simp [Value.cells] at hcs
      obtain ⟨rfl, rfl, rfl⟩ := hcs
      exact ⟨[], .inl ⟨rfl, rfl, rfl, rfl⟩⟩
    · simp [Value.cells] at hcs
      obtain ⟨rfl, rfl, rfl⟩ := hcs
      exact ⟨zs, .inr ⟨_, rfl, hl, hm, by simpa using hz, hcell, hwz⟩⟩
  clear hA0 hval0
  refine (walk a0 len0 cap0 z0 a1 len1 cap1 z1 a2 len2 cap2 z2 W w0 w1 w2).mono fun e W' ⟨he, bel⟩ => ?_
  subst he
  exact ⟨_, rfl, _, _, _, [], _, [], hW', trodAll_mk1 (shut_bool Try.underlying4 _), (trodAll_cons_mk (Below.trod laidOut (by kernel_rfl) (of_decide_eq_true (by kernel_rfl)) k0 bel lt0) (trodAll_cons_mk (Below.trod laidOut (by kernel_rfl) (of_decide_eq_true (by kernel_rfl)) k1 bel lt1) (trodAll_cons_mk (Below.trod laidOut (by kernel_rfl) (of_decide_eq_true (by kernel_rfl)) k2 bel lt2) trodAll_mk0))), rfl, bel.frame _, fun h => by cases h⟩

theorem q0 : (Rows.fnNextRefusesAStrayByteRow.wf (OpenSpec.ofChange Rows.fnNextRefusesAStrayByteSpec)) = true := by kernel_rfl
theorem q3 : (Try.f10.params.all (Try.checked.prog.readableRec ·)) = true := by kernel_rfl
theorem q4 : (namedTie Try.checked.prog Rows.fnNextRefusesAStrayByteRow.named Rows.fnNextRefusesAStrayByteSpec.vars) = true := by kernel_rfl
theorem q5 : ((Rows.fnNextRefusesAStrayByteRow.stops == [])) = true := by kernel_rfl
theorem q7 : ((Rows.fnNextRefusesAStrayByteRow.knobs == [])) = true := by kernel_rfl
theorem q9 : ((Rows.fnNextRefusesAStrayByteRow.inPlace == Try.checked.prog.inPlace 10)) = true := by kernel_rfl
theorem q10 : ((Rows.fnNextRefusesAStrayByteRow.unfollowed == Try.checked.prog.unfollowed 10)) = true := by kernel_rfl
theorem q11 : ((Rows.fnNextRefusesAStrayByteRow.recurses == Try.checked.prog.recurses 10)) = true := by kernel_rfl
theorem q12 : ((Rows.fnNextRefusesAStrayByteRow.named == Try.checked.prog.varsNamed 10)) = true := by kernel_rfl
theorem q13 : ((Rows.fnNextRefusesAStrayByteRow.maps == (Try.f10.params.toList ++ Rows.fnNextRefusesAStrayByteSpec.plain.varTypes Try.checked.prog).any (Try.checked.prog.mapsRec ·))) = true := by kernel_rfl
theorem q14 : ((Rows.fnNextRefusesAStrayByteRow.ifaces == (Try.f10.params.toList ++ Rows.fnNextRefusesAStrayByteSpec.plain.varTypes Try.checked.prog).any (Try.checked.prog.ifacesRec ·))) = true := by kernel_rfl
theorem q15 : ((Rows.fnNextRefusesAStrayByteRow.mapsOut == Try.checked.prog.mapsAmong Try.f10.resultTypes.toList)) = true := by kernel_rfl
theorem q16 : ((Rows.fnNextRefusesAStrayByteRow.loops == (Try.f10.params.toList ++ Rows.fnNextRefusesAStrayByteSpec.plain.varTypes Try.checked.prog).any (Try.checked.prog.loopsFrom ·))) = true := by kernel_rfl
theorem q17 : ((Rows.fnNextRefusesAStrayByteRow.wideKeys == (Try.f10.params.toList ++ Rows.fnNextRefusesAStrayByteSpec.plain.varTypes Try.checked.prog ++ Try.f10.resultTypes.toList).any (Try.checked.prog.wideKeysFrom ·))) = true := by kernel_rfl
theorem q18 : (Rows.fnNextRefusesAStrayByteSpec.vars.all (Try.checked.prog.varReadable ·)) = true := by kernel_rfl
theorem q19 : (Try.f10.resultTypes.all (fun t => Try.checked.prog.readableRec t && decide (t < Try.checked.prog.types.size))) = true := by kernel_rfl
theorem q20 : ((Rows.fnNextRefusesAStrayByteRow.ifacesOut == Try.f10.resultTypes.toList.any (Try.checked.prog.ifacesRec ·))) = true := by kernel_rfl
theorem q21 : ((Rows.fnNextRefusesAStrayByteRow.loopsOut == Try.f10.resultTypes.toList.any (Try.checked.prog.loopsFrom ·))) = true := by kernel_rfl
theorem q23 : (Rows.fnNextRefusesAStrayByteRow.shortTexts.isNone) = true := by kernel_rfl
theorem q28 : ((Rows.fnNextRefusesAStrayByteRow.kinds == (if Rows.fnNextRefusesAStrayByteRow.domain.isEmpty then [] else Try.f10.params.toList.map fun t => match Try.checked.prog.underlying t with | some (.int k) => some k | _ => none))) = true := by kernel_rfl
theorem q29 : ((Rows.fnNextRefusesAStrayByteRow.pinned == Rows.fnNextRefusesAStrayByteRow.pinnedBy)) = true := by kernel_rfl
theorem q30 : ((Rows.fnNextRefusesAStrayByteRow.veiled == (Try.f10.params.toList ++ Rows.fnNextRefusesAStrayByteSpec.plain.varTypes Try.checked.prog ++ Try.f10.resultTypes.toList).any (Try.checked.prog.veiledRec ·))) = true := by kernel_rfl
theorem q31 : (Rows.fnNextRefusesAStrayByteRow.veiledFits Try.checked.prog Try.f10.params.toList (Try.f10.params.toList ++ Rows.fnNextRefusesAStrayByteSpec.plain.varTypes Try.checked.prog ++ Try.f10.resultTypes.toList)) = true := by kernel_rfl
theorem closed : joinedFacts Try.checked.prog 10 Try.f10 Rows.fnNextRefusesAStrayByteSpec Rows.fnNextRefusesAStrayByteRow = true := Facts.joined_of q0 Facts.p1 Facts.p2 q3 q4 q5 Facts.p6 q7 Facts.p8 q9 q10 q11 q12 q13 q14 q15 q16 q17 q18 q19 q20 q21 Facts.p22 q23 Facts.p24 Facts.p25 Facts.p26 Facts.p27 q28 q29 q30 q31
theorem named : Try.pinned.checked.prog.funcNamed Rows.fnNextRefusesAStrayByteRow.func = some 10 := by kernel_rfl

theorem over : Rows.fnNextRefusesAStrayByteRow.holds Try.pinned (OpenSpec.ofChange Rows.fnNextRefusesAStrayByteSpec) :=
  OpenClaim.holds_of_wide 10 Try.f10 rfl rfl rfl rfl rfl rfl rfl ⟨rfl, rfl, rfl, rfl, rfl⟩ rfl rfl rfl rfl rfl named Try.func10 closed
    (of_decide_eq_true (by kernel_rfl)) (by unfold Func.isWrapper; first | (rw [if_pos (by decide +kernel)]; kernel_rfl) | (rw [if_neg (by decide +kernel)]; exact ⟨rfl, rfl⟩))
    (fun os started H enc _ => lifted os started H enc)

/-- ████ THE STATEMENT ████ -/
theorem proved : Rows.FnNextRefusesAStrayByteSaid := over
#print axioms proved
end Go.Proofs.Qxb6600868a.fnNextRefusesAStrayByte
