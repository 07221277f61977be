/- The closed facts of the row, one by one; the three that read the translation's head by Qxb6000902aModsHead. -/
import Derived.Test.Qxb6000902aModsRows
import Derived.Test.Qxb6000902aModsHead
import Derived.JoinedOf
import Derived.KernelRfl
namespace Go.Proofs.Qxb6000902aMods.fnIsNetworkNameMatchesByteModel
theorem both {a b : Bool} (ha : a = true) (hb : b = true) : (a && b) = true := by rw [ha, hb]; rfl
theorem closed : joinedFacts Trym.prog 3 Trym.f3 Rows.fnIsNetworkNameMatchesByteModelSpec Rows.fnIsNetworkNameMatchesByteModelRow = true := by
  unfold joinedFacts
  repeat' (with_reducible refine both ?_ ?_)
  all_goals
    first
    | with_reducible exact mayEnter_true
    | (rw [liftsFinal_false]; kernel_rfl)
    | (rw [make_eq]; kernel_rfl)
    | (as_aux_lemma => kernel_rfl)
end Go.Proofs.Qxb6000902aMods.fnIsNetworkNameMatchesByteModel
