/-
  Closed facts on the program that every row of this seat asks, each a theorem of its own: in one declaration they outgrow the lid on memory.
-/
import Derived.Test.Qxb6600868aRows
import Derived.JoinedOf
import Derived.KernelRfl
namespace Go.Proofs.Qxb6600868a.Facts

theorem p1 : (laidOutB Try.checked.prog) = true := by kernel_rfl
theorem p2 : (mapsRowed Try.checked.prog) = true := by kernel_rfl
theorem p6 : ((Try.checked.prog.stops == [])) = true := by kernel_rfl
theorem p8 : ((Try.checked.prog.stopKnobs == [])) = true := by kernel_rfl
theorem p22 : ((Rows.fnNumberMatchesAutomatonRow.plainKeys == Try.checked.prog.plainKeys)) = true := by kernel_rfl
theorem p24 : (Try.checked.prog.stopsHeard) = true := by kernel_rfl
/-- The signs of the head of the translation, by their numbers. -/
def headSigns : List Char := [104, 97, 114, 110, 101, 115, 115, 32, 55, 56, 52, 54, 48, 98, 97, 97, 49, 54, 97, 48, 52, 99, 48, 49, 98, 57, 54, 49, 48, 56, 55, 101, 57, 48, 97, 98, 49, 49, 50, 49, 97, 55, 100, 52, 97, 53, 100, 102, 48, 53, 101, 52, 102, 56, 56, 55, 98, 57, 52, 98, 56, 57, 54, 101, 98, 48, 50, 49, 52, 97, 97, 100, 32, 99, 117, 116, 32, 97, 116, 32, 101, 120, 97, 109, 112, 108, 101, 46, 99, 111, 109, 47, 109, 101, 116, 101, 114, 100, 47, 109, 101, 116, 101, 114, 100, 47, 122, 122, 108, 97, 119, 115, 95, 105, 110, 116, 101, 114, 110, 97, 108, 95, 101, 118, 101, 110, 116, 95, 98, 49, 46, 70, 110, 78, 117, 109, 98, 101, 114, 77, 97, 116, 99, 104, 101, 115, 65, 117, 116, 111, 109, 97, 116, 111, 110, 32, 101, 120, 97, 109, 112, 108, 101, 46, 99, 111, 109, 47, 109, 101, 116, 101, 114, 100, 47, 109, 101, 116, 101, 114, 100, 47, 122, 122, 108, 97, 119, 115, 95, 105, 110, 116, 101, 114, 110, 97, 108, 95, 101, 118, 101, 110, 116, 95, 98, 49, 46, 70, 110, 78, 117, 109, 98, 101, 114, 83, 112, 97, 110, 83, 116, 97, 110, 100, 115, 65, 108, 111, 110, 101, 32, 101, 120, 97, 109, 112, 108, 101, 46, 99, 111, 109, 47, 109, 101, 116, 101, 114, 100, 47, 109, 101, 116, 101, 114, 100, 47, 122, 122, 108, 97, 119, 115, 95, 105, 110, 116, 101, 114, 110, 97, 108, 95, 101, 118, 101, 110, 116, 95, 98, 49, 46, 70, 110, 78, 117, 109, 98, 101, 114, 82, 101, 97, 100, 115, 87, 114, 105, 116, 116, 101, 110, 78, 117, 109, 98, 101, 114, 115, 32, 101, 120, 97, 109, 112, 108, 101, 46, 99, 111, 109, 47, 109, 101, 116, 101, 114, 100, 47, 109, 101, 116, 101, 114, 100, 47, 122, 122, 108, 97, 119, 115, 95, 105, 110, 116, 101, 114, 110, 97, 108, 95, 101, 118, 101, 110, 116, 95, 98, 49, 46, 70, 110, 69, 115, 99, 97, 112, 101, 77, 97, 116, 99, 104, 101, 115, 67, 97, 115, 101, 84, 97, 98, 108, 101, 32, 101, 120, 97, 109, 112, 108, 101, 46, 99, 111, 109, 47, 109, 101, 116, 101, 114, 100, 47, 109, 101, 116, 101, 114, 100, 47, 122, 122, 108, 97, 119, 115, 95, 105, 110, 116, 101, 114, 110, 97, 108, 95, 101, 118, 101, 110, 116, 95, 98, 49, 46, 70, 110, 69, 115, 99, 97, 112, 101, 82, 101, 97, 100, 115, 69, 118, 101, 114, 121, 69, 115, 99, 97, 112, 101, 32, 101, 120, 97, 109, 112, 108, 101, 46, 99, 111, 109, 47, 109, 101, 116, 101, 114, 100, 47, 109, 101, 116, 101, 114, 100, 47, 122, 122, 108, 97, 119, 115, 95, 105, 110, 116, 101, 114, 110, 97, 108, 95, 101, 118, 101, 110, 116, 95, 98, 49, 46, 70, 110, 69, 115, 99, 97, 112, 101, 83, 112, 97, 110, 73, 115, 66, 111, 117, 110, 100, 101, 100, 65, 110, 100, 83, 116, 97, 110, 100, 115, 65, 108, 111, 110, 101, 32, 101, 120, 97, 109, 112, 108, 101, 46, 99, 111, 109, 47, 109, 101, 116, 101, 114, 100, 47, 109, 101, 116, 101, 114, 100, 47, 122, 122, 108, 97, 119, 115, 95, 105, 110, 116, 101, 114, 110, 97, 108, 95, 101, 118, 101, 110, 116, 95, 98, 49, 46, 70, 110, 78, 101, 120, 116, 82, 101, 97, 100, 115, 87, 104, 97, 116, 73, 115, 66, 117, 105, 108, 116, 32, 101, 120, 97, 109, 112, 108, 101, 46, 99, 111, 109, 47, 109, 101, 116, 101, 114, 100, 47, 109, 101, 116, 101, 114, 100, 47, 122, 122, 108, 97, 119, 115, 95, 105, 110, 116, 101, 114, 110, 97, 108, 95, 101, 118, 101, 110, 116, 95, 98, 49, 46, 70, 110, 78, 101, 120, 116, 82, 101, 102, 117, 115, 101, 115, 65, 83, 116, 114, 97, 121, 66, 121, 116, 101, 32, 101, 120, 97, 109, 112, 108, 101, 46, 99, 111, 109, 47, 109, 101, 116, 101, 114, 100, 47, 109, 101, 116, 101, 114, 100, 47, 122, 122, 108, 97, 119, 115, 95, 105, 110, 116, 101, 114, 110, 97, 108, 95, 101, 118, 101, 110, 116, 95, 98, 49, 46, 70, 110, 78, 101, 120, 116, 75, 101, 101, 112, 115, 65, 80, 114, 101, 102, 105, 120, 65, 110, 100, 77, 111, 118, 101, 115, 70, 111, 114, 119, 97, 114, 100].map Char.ofNat
theorem head_eq : String.ofList headSigns = Try.checked.prog.initOrder := by kernel_rfl
theorem head_toList : Try.checked.prog.initOrder.toList = headSigns := by rw [← head_eq]; exact String.toList_ofList
theorem make_of {P : Program} {l c : List Char} {rest : List (List Char)} (h : P.initOrder.toList = l) (hw : behindMainWord (wordsSigns l) = c :: rest)
    (h1 : (c == "gc".toList || c == "spec".toList) = false) (h2 : (c == "cut".toList) = true) : P.make = some .cut := by
  unfold Program.make
  rw [h, hw]
  simp only [h1, h2]
  rfl
theorem lifts_of {P : Program} {l c : List Char} {rest : List (List Char)} (h : P.initOrder.toList = l) (hw : behindMainWord (wordsSigns l) = c :: rest)
    (h1 : (c == "carried".toList) = false) (h2 : (stripLifts liftWords (c :: rest)).1 = []) : P.liftsFinal = false := by
  have h1' : (some c == some "carried".toList) = false := by simpa using h1
  unfold Program.liftsFinal Program.headLifts
  rw [h, hw]
  simp only [List.head?_cons, h1', h2, Bool.false_and, Bool.false_or]
  split <;> rfl
theorem enter_of {P : Program} {l c : List Char} {rest : List (List Char)} (h : P.initOrder.toList = l) (hw : behindMainWord (wordsSigns l) = c :: rest)
    (h1 : (stripLifts liftWords (c :: rest)).1 = []) (h2 : ((stripLifts liftWords (c :: rest)).2.head? == some "cut".toList) = true)
    (hl : P.laysLater = false) (hr : P.bearsReflect = false) (hd : P.doorFits [] = true) : P.mayEnter = true := by
  unfold Program.mayEnter
  rw [h, hw]
  simp only [h1, h2, hl, hr, hd]
  simp
theorem words_eq : behindMainWord (wordsSigns headSigns) = "cut".toList :: (behindMainWord (wordsSigns headSigns)).tail := by kernel_rfl
theorem strip1 : (stripLifts liftWords ("cut".toList :: (behindMainWord (wordsSigns headSigns)).tail)).1 = [] := by kernel_rfl
theorem strip2 : ((stripLifts liftWords ("cut".toList :: (behindMainWord (wordsSigns headSigns)).tail)).2.head? == some "cut".toList) = true := by kernel_rfl
theorem lays : Try.checked.prog.laysLater = false := by kernel_rfl
theorem bears : Try.checked.prog.bearsReflect = false := by kernel_rfl
theorem door : Try.checked.prog.doorFits [] = true := by kernel_rfl
theorem make_eq : Try.checked.prog.make = some .cut := make_of head_toList words_eq (by kernel_rfl) (by kernel_rfl)
theorem lifts_eq : Try.checked.prog.liftsFinal = false := lifts_of head_toList words_eq (by kernel_rfl) strip1
theorem p25 : (Try.checked.prog.mayEnter) = true := enter_of head_toList words_eq strip1 strip2 lays bears door
theorem p26 : ((Rows.fnNumberMatchesAutomatonRow.lifted == Try.checked.prog.liftsFinal)) = true := by rw [lifts_eq]; kernel_rfl
theorem p27 : ((Try.checked.prog.make == some Rows.fnNumberMatchesAutomatonRow.make)) = true := by rw [make_eq]; kernel_rfl
end Go.Proofs.Qxb6600868a.Facts
