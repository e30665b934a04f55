/- Closed facts on the loaded program that every row of this seat asks. -/
import Derived.Test.Qxb6612745aOpen
namespace Go.Proofs.Qxb6612745a
theorem band {a b : Bool} (ha : a = true) (hb : b = true) : (a && b) = true := by rw [ha, hb]; rfl
theorem heard : Try.pinned.checked.prog.stopsHeard = true := by kernel_rfl
theorem mayEnter : Try.pinned.checked.prog.mayEnter = true := by kernel_rfl
theorem lifts : (Rows.fnRemovedEachRecognisesTheCrossingRow.lifted == Try.pinned.checked.prog.liftsFinal) = true := by kernel_rfl
end Go.Proofs.Qxb6612745a
