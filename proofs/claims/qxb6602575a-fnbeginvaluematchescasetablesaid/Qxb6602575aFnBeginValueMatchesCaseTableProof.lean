/- The row of the law. -/
import Derived.Test.Qxb6602575aRows
import Derived.Test.Qxb6602575aLead
import Derived.Test.Qxb6602575aFnBeginValueMatchesCaseTableRowA
import Derived.WalkKit
import Derived.ProofKit
import Derived.OpenShut
import Derived.ShutString
import Derived.ChangeOld
import Derived.Below
namespace Go.Proofs.Qxb6602575a.fnBeginValueMatchesCaseTable
open Go.ChangeShapes Go.WideShapes Go.ChangeAt Go.RowKit

theorem closed : joinedFacts Try.prog 8 Try.f8 Rows.fnBeginValueMatchesCaseTableSpec Rows.fnBeginValueMatchesCaseTableRow = true := by
  unfold joinedFacts
  rw [Lead.mayEnter, Lead.liftsFinal, Lead.make]
  kernel_rfl

theorem over : Rows.fnBeginValueMatchesCaseTableRow.holds Try.pinned (OpenSpec.ofChange Rows.fnBeginValueMatchesCaseTableSpec) :=
  OpenClaim.holds_of_wide 8 Try.f8 rfl rfl rfl rfl rfl rfl rfl ⟨rfl, rfl, rfl, rfl, rfl⟩ rfl rfl rfl rfl rfl (by kernel_rfl) Try.func8 closed
    (of_decide_eq_true (by kernel_rfl)) (by unfold Func.isWrapper; first | (rw [if_pos (by decide +kernel)]; kernel_rfl) | (rw [if_neg (by decide +kernel)]; exact ⟨rfl, rfl⟩))
    (fun os started H enc _ => lifted os started H enc)

theorem proved : Rows.FnBeginValueMatchesCaseTableSaid := over
end Go.Proofs.Qxb6602575a.fnBeginValueMatchesCaseTable
namespace Go.Proofs.Qxb6602575a
theorem fnBeginValueMatchesCaseTable_proved : Rows.FnBeginValueMatchesCaseTableSaid := fnBeginValueMatchesCaseTable.proved
end Go.Proofs.Qxb6602575a
