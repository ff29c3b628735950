import Derived.Test.Qxb6601608aRows
import Derived.JoinedOf
namespace Go.Proofs.Qxb6601608a
theorem liftsFact : Try.pinned.checked.prog.liftsFinal = Rows.fnNextLineMatchesModelRow.lifted := by kernel_rfl
theorem makeFact : Try.pinned.checked.prog.make = some Rows.fnNextLineMatchesModelRow.make := by kernel_rfl
theorem enterFact : Try.pinned.checked.prog.mayEnter = true := by kernel_rfl
end Go.Proofs.Qxb6601608a
