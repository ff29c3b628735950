import Derived.Test.Qxb6601820aRows
import Derived.JoinedOf
namespace Go.Proofs.Qxb6601820a
theorem liftsFact : Try.pinned.checked.prog.liftsFinal = Rows.fnQuotedMatchesScannerRow.lifted := by kernel_rfl
theorem makeFact : Try.pinned.checked.prog.make = some Rows.fnQuotedMatchesScannerRow.make := by kernel_rfl
theorem enterFact : Try.pinned.checked.prog.mayEnter = true := by kernel_rfl
end Go.Proofs.Qxb6601820a
