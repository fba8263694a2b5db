/-
  Closed facts on the program that every row of this seat asks, each a theorem of its own: in one declaration they outgrow the lid on Lean's memory.
-/
import Derived.Test.Qxb6600868aRows
import Derived.JoinedOf
import Derived.KernelRfl
namespace Go.Proofs.Qxb6600868a.Facts

theorem p1 : (laidOutB Try.checked.prog) = true := by kernel_rfl
theorem p2 : (mapsRowed Try.checked.prog) = true := by kernel_rfl
theorem p6 : ((Try.checked.prog.stops == [])) = true := by kernel_rfl
theorem p8 : ((Try.checked.prog.stopKnobs == [])) = true := by kernel_rfl
theorem p22 : ((Rows.fnNumberMatchesAutomatonRow.plainKeys == Try.checked.prog.plainKeys)) = true := by kernel_rfl
theorem p24 : (Try.checked.prog.stopsHeard) = true := by kernel_rfl
theorem p25 : (Try.checked.prog.mayEnter) = true := by kernel_rfl
theorem p26 : ((Rows.fnNumberMatchesAutomatonRow.lifted == Try.checked.prog.liftsFinal)) = true := by kernel_rfl
theorem p27 : ((Try.checked.prog.make == some Rows.fnNumberMatchesAutomatonRow.make)) = true := by kernel_rfl
end Go.Proofs.Qxb6600868a.Facts
