import Derived.Test.Qxb6602222aRows
import Derived.JoinedOf
namespace Go.Proofs.Qxb6602222a
theorem liftsFact : Try.pinned.checked.prog.liftsFinal = Rows.fnLineEndFindsFirstLineEndRow.lifted := by kernel_rfl
theorem makeFact : Try.pinned.checked.prog.make = some Rows.fnLineEndFindsFirstLineEndRow.make := by kernel_rfl
theorem enterFact : Try.pinned.checked.prog.mayEnter = true := by kernel_rfl
end Go.Proofs.Qxb6602222a
