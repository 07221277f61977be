/- The proof of Rows.FnIsNetworkNameMatchesByteModelSaid: the frame is the guide's shell for this function, the walk is ours. -/
import Derived.Test.Qxb6000902aModsRows
import Derived.Test.Qxb6000902aModsName
import Derived.Test.Qxb6000902aModsModel
import Derived.Test.Qxb6000902aModsByteLifted
import Derived.Test.Qxb6000902aModsByteClosed
import Derived.WalkKit
import Derived.ProofKit
import Derived.OpenShut
import Derived.ShutString
namespace Go.Proofs.Qxb6000902aMods.fnIsNetworkNameMatchesByteModel
open Go.ChangeShapes Go.WideShapes Go.ChangeAt Go.RowKit
open Go.ChangeMaps (open_string shut_string)
set_option linter.unusedVariables false      -- a walk need not use every 'w<i>' (that an integer argument fits its kind)


theorem over : Rows.fnIsNetworkNameMatchesByteModelRow.holds Trym.pinned (OpenSpec.ofChange Rows.fnIsNetworkNameMatchesByteModelSpec) :=
  OpenClaim.holds_of_wide 3 Trym.f3 rfl rfl rfl rfl rfl rfl rfl ⟨rfl, rfl, rfl, rfl, rfl⟩ rfl rfl rfl rfl rfl (by kernel_rfl) Trym.func3 closed
    (of_decide_eq_true (by kernel_rfl)) (by unfold Func.isWrapper; first | (rw [if_pos (by decide +kernel)]; kernel_rfl) | (rw [if_neg (by decide +kernel)]; exact ⟨rfl, rfl⟩))
    (fun os started H enc _ => lifted os started H enc)

/-- ████ THE STATEMENT ████ -/
theorem proved : Rows.FnIsNetworkNameMatchesByteModelSaid :=
  over
#print axioms proved
end Go.Proofs.Qxb6000902aMods.fnIsNetworkNameMatchesByteModel
