/-
  The statement 'Rows.FnNumberReadsWrittenNumbersSaid', out of the walk in the texts that it imports. The frame is the kit's shell for this function; the row's closed facts are laid as theorems of their own.
-/
import Derived.Test.Qxb6600868aRows
import Derived.Test.Qxb6600868aFacts
import Derived.Test.Qxb6600868aJoined
import Derived.Test.Qxb6600868aWrWalk
import Derived.WalkKit
import Derived.ProofKit
import Derived.OpenShut
import Derived.ShutString
import Derived.ChangeOld
import Derived.Below
namespace Go.Proofs.Qxb6600868a.fnNumberReadsWrittenNumbers
open Go.ChangeShapes Go.WideShapes Go.ChangeAt Go.RowKit
open Go.ChangeMaps (open_string shut_string)
set_option linter.unusedVariables false

theorem own : ownKnob Try.prog.godebug = none := by kernel_rfl
theorem laidOut : laidOutB Try.prog = true := by kernel_rfl

/-- WHAT THE WALK IS TOLD OF A SLICE OF INTEGERS THAT CAME IN: it is nil; or it leads to a row of 'cap' cells, the numbers 'zs' (the first 'len' are its elements, the rest its spare room), each fitting its kind. -/
def IsRow (k : IntKind) (w : World) (a : Option Addr) (len cap : Nat) (zs : List Int) : Prop :=
  (a = none ∧ len = 0 ∧ cap = 0 ∧ zs = []) ∨
  ∃ x, a = some x ∧ len ≤ cap ∧ cap ≤ maxLen ∧ zs.length = cap ∧ (∀ i, i < zs.length → w.cell? (x.add i) = some (.int k (zs.getD i 0))) ∧ ∀ n ∈ zs, (Lit.int k n).wf = true

/-! ### THE WALK -/
theorem walk (a0 : Bool) (a1 : Option Addr) (len1 cap1 : Nat) (z1 : List Int) (a2 : Bool) (a3 : Option Addr) (len3 cap3 : Nat) (z3 : List Int) (a4 : Bool) (a5 : Bool) (a6 : Int) (a7 : Option Addr) (len7 cap7 : Nat) (z7 : List Int) (a8 : Option Addr) (len8 cap8 : Nat) (z8 : List Int) (w : World) (w1 : IsRow .u8 w a1 len1 cap1 z1) (w3 : IsRow .u8 w a3 len3 cap3 z3) (w6 : (Lit.int .u8 a6).wf = true) (w7 : IsRow .u8 w a7 len7 cap7 z7) (w8 : IsRow .u8 w a8 len8 cap8 z8) :
    Calls Try.prog 5 #[.bool a0, .slice a1 len1 cap1, .bool a2, .slice a3 len3 cap3, .bool a4, .bool a5, .int .u8 a6, .slice a7 len7 cap7, .slice a8 len8 cap8] w fun e w' => e = .returned (.bool true) ∧ Below w.heap.size w w' := by
  exact wr_walk a0 a1 len1 cap1 z1 a2 a3 len3 cap3 z3 a4 a5 a6 a7 len7 cap7 z7 a8 len8 cap8 z8 w w1 w3 (bounds_u8 w6) w7 w8

/-! ### THE ROW's STEP: WRITTEN OUT: LEAVE IT -/
set_option maxRecDepth 100000 in
theorem lifted (os : Os) (started : os.Started) (H : Type) (enc : TypeId × Value → H) :
    ReturnsInHanded {} Try.checked os 5 .any (Rows.fnNumberReadsWrittenNumbersSpec.pre6 enc Try.prog Try.f5 Rows.fnNumberReadsWrittenNumbersRow.domain false) (Rows.fnNumberReadsWrittenNumbersSpec.post enc Try.prog Try.f5 false true false false) := by
  refine returnsInHanded_of_change (C := Try.checked) own started (by kernel_rfl) Try.func5
    (ChangeSpec.witness6 (enc := enc) (C := Try.checked) false ⟨#[], #[.bool false, .slice none 0 0, .bool false, .slice none 0 0, .bool false, .bool false, .int .u8 0, .slice none 0 0, .slice none 0 0], []⟩ 8 (by kernel_rfl) (by kernel_rfl) (by kernel_rfl) (by kernel_rfl)) ?_
  intro W base args ds gs before hval0 hW hcnd _
  have hval : ∀ (j : Nat) t v, Try.f5.params[j]? = some t → args[j]? = some v → Value.okWide Try.prog W .any base t v := hval0
  have hW' := hW
  obtain ⟨p, q, hA0, hV, rfl, hfz, hnd⟩ := hW
  have hA : DataW.TrodAll enc Try.prog W 0 (fun _ => true) true Try.f5.params.toList args.toList ds p := hA0
  rw [Try.params5] at hA hval
  obtain ⟨v0, vs0, d0, ds0, p0, q0, hargs, rfl, rfl, h0, r0⟩ := trodAll_cons hA
  obtain ⟨v1, vs1, d1, ds1, p1, q1, rfl, rfl, rfl, h1, r1⟩ := trodAll_cons r0
  obtain ⟨v2, vs2, d2, ds2, p2, q2, rfl, rfl, rfl, h2, r2⟩ := trodAll_cons r1
  obtain ⟨v3, vs3, d3, ds3, p3, q3, rfl, rfl, rfl, h3, r3⟩ := trodAll_cons r2
  obtain ⟨v4, vs4, d4, ds4, p4, q4, rfl, rfl, rfl, h4, r4⟩ := trodAll_cons r3
  obtain ⟨v5, vs5, d5, ds5, p5, q5, rfl, rfl, rfl, h5, r5⟩ := trodAll_cons r4
  obtain ⟨v6, vs6, d6, ds6, p6, q6, rfl, rfl, rfl, h6, r6⟩ := trodAll_cons r5
  obtain ⟨v7, vs7, d7, ds7, p7, q7, rfl, rfl, rfl, h7, r7⟩ := trodAll_cons r6
  obtain ⟨v8, vs8, d8, ds8, p8, q8, rfl, rfl, rfl, h8, r8⟩ := trodAll_cons r7
  obtain ⟨rfl, rfl, rfl⟩ := trodAll_nil r8
  obtain rfl : args = #[v0, v1, v2, v3, v4, v5, v6, v7, v8] := by cases args; simp_all
  obtain ⟨rfl, rfl⟩ := trodVars_none hV
  obtain ⟨a0, rfl, rfl, rfl⟩ := open_bool Try.underlying4 (hval 0 4 v0 rfl rfl) h0
  obtain ⟨a1, len1, cap1, rfl⟩ := okWide_slice Try.underlying22 (hval 1 22 v1 rfl rfl)
  have k1 := h1
  have lt1 : ∀ x ∈ p1, x.block < W.heap.size := by obtain ⟨m, hm⟩ := k1; exact DataW.trod_lt m _ _ _ hm
  obtain ⟨z1, w1⟩ : ∃ zs, IsRow .u8 W a1 len1 cap1 zs := by
    obtain ⟨fuel, hf⟩ := h1
    rcases open_ints Try.underlying22 Try.underlying5 (by kernel_rfl) hf with ⟨hcs, _⟩ | ⟨x, l, c, zs, hcs, _, hl, hm, hz, _, hcell, hwz⟩
    · simp [Value.cells] at hcs
      obtain ⟨rfl, rfl, rfl⟩ := hcs
      exact ⟨[], .inl ⟨rfl, rfl, rfl, rfl⟩⟩
    · simp [Value.cells] at hcs
      obtain ⟨rfl, rfl, rfl⟩ := hcs
      exact ⟨zs, .inr ⟨_, rfl, hl, hm, by simpa using hz, hcell, hwz⟩⟩
  obtain ⟨a2, rfl, rfl, rfl⟩ := open_bool Try.underlying4 (hval 2 4 v2 rfl rfl) h2
  obtain ⟨a3, len3, cap3, rfl⟩ := okWide_slice Try.underlying22 (hval 3 22 v3 rfl rfl)
  have k3 := h3
  have lt3 : ∀ x ∈ p3, x.block < W.heap.size := by obtain ⟨m, hm⟩ := k3; exact DataW.trod_lt m _ _ _ hm
  obtain ⟨z3, w3⟩ : ∃ zs, IsRow .u8 W a3 len3 cap3 zs := by
    obtain ⟨fuel, hf⟩ := h3
    rcases open_ints Try.underlying22 Try.underlying5 (by kernel_rfl) hf with ⟨hcs, _⟩ | ⟨x, l, c, zs, hcs, _, hl, hm, hz, _, hcell, hwz⟩
    · simp [Value.cells] at hcs
      obtain ⟨rfl, rfl, rfl⟩ := hcs
      exact ⟨[], .inl ⟨rfl, rfl, rfl, rfl⟩⟩
    · simp [Value.cells] at hcs
      obtain ⟨rfl, rfl, rfl⟩ := hcs
      exact ⟨zs, .inr ⟨_, rfl, hl, hm, by simpa using hz, hcell, hwz⟩⟩
  obtain ⟨a4, rfl, rfl, rfl⟩ := open_bool Try.underlying4 (hval 4 4 v4 rfl rfl) h4
  obtain ⟨a5, rfl, rfl, rfl⟩ := open_bool Try.underlying4 (hval 5 4 v5 rfl rfl) h5
  obtain ⟨a6, rfl, rfl, rfl, w6⟩ := open_int Try.underlying5 (hval 6 5 v6 rfl rfl) h6
  obtain ⟨a7, len7, cap7, rfl⟩ := okWide_slice Try.underlying22 (hval 7 22 v7 rfl rfl)
  have k7 := h7
  have lt7 : ∀ x ∈ p7, x.block < W.heap.size := by obtain ⟨m, hm⟩ := k7; exact DataW.trod_lt m _ _ _ hm
  obtain ⟨z7, w7⟩ : ∃ zs, IsRow .u8 W a7 len7 cap7 zs := by
    obtain ⟨fuel, hf⟩ := h7
    rcases open_ints Try.underlying22 Try.underlying5 (by kernel_rfl) hf with ⟨hcs, _⟩ | ⟨x, l, c, zs, hcs, _, hl, hm, hz, _, hcell, hwz⟩
    · simp [Value.cells] at hcs
      obtain ⟨rfl, rfl, rfl⟩ := hcs
      exact ⟨[], .inl ⟨rfl, rfl, rfl, rfl⟩⟩
    · simp [Value.cells] at hcs
      obtain ⟨rfl, rfl, rfl⟩ := hcs
      exact ⟨zs, .inr ⟨_, rfl, hl, hm, by simpa using hz, hcell, hwz⟩⟩
  obtain ⟨a8, len8, cap8, rfl⟩ := okWide_slice Try.underlying22 (hval 8 22 v8 rfl rfl)
  have k8 := h8
  have lt8 : ∀ x ∈ p8, x.block < W.heap.size := by obtain ⟨m, hm⟩ := k8; exact DataW.trod_lt m _ _ _ hm
  obtain ⟨z8, w8⟩ : ∃ zs, IsRow .u8 W a8 len8 cap8 zs := by
    obtain ⟨fuel, hf⟩ := h8
    rcases open_ints Try.underlying22 Try.underlying5 (by kernel_rfl) hf with ⟨hcs, _⟩ | ⟨x, l, c, zs, hcs, _, hl, hm, hz, _, hcell, hwz⟩
    · simp [Value.cells] at hcs
      obtain ⟨rfl, rfl, rfl⟩ := hcs
      exact ⟨[], .inl ⟨rfl, rfl, rfl, rfl⟩⟩
    · simp [Value.cells] at hcs
      obtain ⟨rfl, rfl, rfl⟩ := hcs
      exact ⟨zs, .inr ⟨_, rfl, hl, hm, by simpa using hz, hcell, hwz⟩⟩
  clear hA0 hval0
  refine (walk a0 a1 len1 cap1 z1 a2 a3 len3 cap3 z3 a4 a5 a6 a7 len7 cap7 z7 a8 len8 cap8 z8 W w1 w3 w6 w7 w8).mono fun e W' ⟨he, bel⟩ => ?_
  subst he
  exact ⟨_, rfl, _, _, _, [], _, [], hW', trodAll_mk1 (shut_bool Try.underlying4 _), (trodAll_cons_mk (shut_bool Try.underlying4 _) (trodAll_cons_mk (Below.trod laidOut (by kernel_rfl) (of_decide_eq_true (by kernel_rfl)) k1 bel lt1) (trodAll_cons_mk (shut_bool Try.underlying4 _) (trodAll_cons_mk (Below.trod laidOut (by kernel_rfl) (of_decide_eq_true (by kernel_rfl)) k3 bel lt3) (trodAll_cons_mk (shut_bool Try.underlying4 _) (trodAll_cons_mk (shut_bool Try.underlying4 _) (trodAll_cons_mk (shut_int Try.underlying5 w6) (trodAll_cons_mk (Below.trod laidOut (by kernel_rfl) (of_decide_eq_true (by kernel_rfl)) k7 bel lt7) (trodAll_cons_mk (Below.trod laidOut (by kernel_rfl) (of_decide_eq_true (by kernel_rfl)) k8 bel lt8) trodAll_mk0))))))))), rfl, bel.frame _, fun h => by cases h⟩

theorem q0 : (Rows.fnNumberReadsWrittenNumbersRow.wf (OpenSpec.ofChange Rows.fnNumberReadsWrittenNumbersSpec)) = true := by kernel_rfl
theorem q3 : (Try.f5.params.all (Try.checked.prog.readableRec ·)) = true := by kernel_rfl
theorem q4 : (namedTie Try.checked.prog Rows.fnNumberReadsWrittenNumbersRow.named Rows.fnNumberReadsWrittenNumbersSpec.vars) = true := by kernel_rfl
theorem q5 : ((Rows.fnNumberReadsWrittenNumbersRow.stops == [])) = true := by kernel_rfl
theorem q7 : ((Rows.fnNumberReadsWrittenNumbersRow.knobs == [])) = true := by kernel_rfl
theorem q9 : ((Rows.fnNumberReadsWrittenNumbersRow.inPlace == Try.checked.prog.inPlace 5)) = true := by kernel_rfl
theorem q10 : ((Rows.fnNumberReadsWrittenNumbersRow.unfollowed == Try.checked.prog.unfollowed 5)) = true := by kernel_rfl
theorem q11 : ((Rows.fnNumberReadsWrittenNumbersRow.recurses == Try.checked.prog.recurses 5)) = true := by kernel_rfl
theorem q12 : ((Rows.fnNumberReadsWrittenNumbersRow.named == Try.checked.prog.varsNamed 5)) = true := by kernel_rfl
theorem q13 : ((Rows.fnNumberReadsWrittenNumbersRow.maps == (Try.f5.params.toList ++ Rows.fnNumberReadsWrittenNumbersSpec.plain.varTypes Try.checked.prog).any (Try.checked.prog.mapsRec ·))) = true := by kernel_rfl
theorem q14 : ((Rows.fnNumberReadsWrittenNumbersRow.ifaces == (Try.f5.params.toList ++ Rows.fnNumberReadsWrittenNumbersSpec.plain.varTypes Try.checked.prog).any (Try.checked.prog.ifacesRec ·))) = true := by kernel_rfl
theorem q15 : ((Rows.fnNumberReadsWrittenNumbersRow.mapsOut == Try.checked.prog.mapsAmong Try.f5.resultTypes.toList)) = true := by kernel_rfl
theorem q16 : ((Rows.fnNumberReadsWrittenNumbersRow.loops == (Try.f5.params.toList ++ Rows.fnNumberReadsWrittenNumbersSpec.plain.varTypes Try.checked.prog).any (Try.checked.prog.loopsFrom ·))) = true := by kernel_rfl
theorem q17 : ((Rows.fnNumberReadsWrittenNumbersRow.wideKeys == (Try.f5.params.toList ++ Rows.fnNumberReadsWrittenNumbersSpec.plain.varTypes Try.checked.prog ++ Try.f5.resultTypes.toList).any (Try.checked.prog.wideKeysFrom ·))) = true := by kernel_rfl
theorem q18 : (Rows.fnNumberReadsWrittenNumbersSpec.vars.all (Try.checked.prog.varReadable ·)) = true := by kernel_rfl
theorem q19 : (Try.f5.resultTypes.all (fun t => Try.checked.prog.readableRec t && decide (t < Try.checked.prog.types.size))) = true := by kernel_rfl
theorem q20 : ((Rows.fnNumberReadsWrittenNumbersRow.ifacesOut == Try.f5.resultTypes.toList.any (Try.checked.prog.ifacesRec ·))) = true := by kernel_rfl
theorem q21 : ((Rows.fnNumberReadsWrittenNumbersRow.loopsOut == Try.f5.resultTypes.toList.any (Try.checked.prog.loopsFrom ·))) = true := by kernel_rfl
theorem q23 : (Rows.fnNumberReadsWrittenNumbersRow.shortTexts.isNone) = true := by kernel_rfl
theorem q28 : ((Rows.fnNumberReadsWrittenNumbersRow.kinds == (if Rows.fnNumberReadsWrittenNumbersRow.domain.isEmpty then [] else Try.f5.params.toList.map fun t => match Try.checked.prog.underlying t with | some (.int k) => some k | _ => none))) = true := by kernel_rfl
theorem q29 : ((Rows.fnNumberReadsWrittenNumbersRow.pinned == Rows.fnNumberReadsWrittenNumbersRow.pinnedBy)) = true := by kernel_rfl
theorem q30 : ((Rows.fnNumberReadsWrittenNumbersRow.veiled == (Try.f5.params.toList ++ Rows.fnNumberReadsWrittenNumbersSpec.plain.varTypes Try.checked.prog ++ Try.f5.resultTypes.toList).any (Try.checked.prog.veiledRec ·))) = true := by kernel_rfl
theorem q31 : (Rows.fnNumberReadsWrittenNumbersRow.veiledFits Try.checked.prog Try.f5.params.toList (Try.f5.params.toList ++ Rows.fnNumberReadsWrittenNumbersSpec.plain.varTypes Try.checked.prog ++ Try.f5.resultTypes.toList)) = true := by kernel_rfl
theorem closed : joinedFacts Try.checked.prog 5 Try.f5 Rows.fnNumberReadsWrittenNumbersSpec Rows.fnNumberReadsWrittenNumbersRow = true := Facts.joined_of q0 Facts.p1 Facts.p2 q3 q4 q5 Facts.p6 q7 Facts.p8 q9 q10 q11 q12 q13 q14 q15 q16 q17 q18 q19 q20 q21 Facts.p22 q23 Facts.p24 Facts.p25 Facts.p26 Facts.p27 q28 q29 q30 q31
theorem named : Try.pinned.checked.prog.funcNamed Rows.fnNumberReadsWrittenNumbersRow.func = some 5 := by kernel_rfl

theorem over : Rows.fnNumberReadsWrittenNumbersRow.holds Try.pinned (OpenSpec.ofChange Rows.fnNumberReadsWrittenNumbersSpec) :=
  OpenClaim.holds_of_wide 5 Try.f5 rfl rfl rfl rfl rfl rfl rfl ⟨rfl, rfl, rfl, rfl, rfl⟩ rfl rfl rfl rfl rfl named Try.func5 closed
    (of_decide_eq_true (by kernel_rfl)) (by unfold Func.isWrapper; first | (rw [if_pos (by decide +kernel)]; kernel_rfl) | (rw [if_neg (by decide +kernel)]; exact ⟨rfl, rfl⟩))
    (fun os started H enc _ => lifted os started H enc)

/-- ████ THE STATEMENT ████ -/
theorem proved : Rows.FnNumberReadsWrittenNumbersSaid := over
#print axioms proved
end Go.Proofs.Qxb6600868a.fnNumberReadsWrittenNumbers
