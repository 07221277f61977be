/- The walk for Rows.FnIsNetworkNameMatchesByteModelSaid: the frame is the guide's shell for this function, the walk is ours. -/
import Derived.Test.Qxb6000902aModsRows
import Derived.Test.Qxb6000902aModsName
import Derived.Test.Qxb6000902aModsModel
import Derived.WalkKit
import Derived.ProofKit
import Derived.OpenShut
import Derived.ShutString
namespace Go.Proofs.Qxb6000902aMods.fnIsNetworkNameMatchesByteModel
open Go.ChangeShapes Go.WideShapes Go.ChangeAt Go.RowKit
open Go.ChangeMaps (open_string shut_string)
set_option linter.unusedVariables false      -- a walk need not use every 'w<i>' (that an integer argument fits its kind)


/-- A string's iterator is a new block: nothing that was there has turned. -/
theorem grown_iter (w : World) (s : ByteArray) (pos : Nat) : Grown w (w.iter s pos) := by
  refine ⟨World.keptBut_alloc _ _ _, fun a => ?_, by simp [World.iter]⟩
  show (w.alloc (.stringIter s pos)).frozen? a = w.frozen? a
  unfold World.frozen? World.alloc
  simp only [Array.getElem?_push]
  by_cases h : a.block = w.heap.size
  · rw [if_pos h, h, Array.getElem?_eq_none (Nat.le_refl _)]
  · rw [if_neg h]

/-! ### STEP 1: THE WALK: the Go text returns true. 'Grown w w'': the world has at most new blocks (Derived/RowKit3.lean). Part the cases AHEAD of 'go_enter' where a test parts the walk; take each callee by a contract of your own. -/
theorem walk (a0 : ByteArray) (w0 : a0.size ≤ maxLen) (w : World) :
    Calls Trym.prog 3 #[.string a0] w fun e w' => e = .returned (.bool true) ∧ Grown w w' := by
  unfold maxLen at w0
  by_cases h : a0.size ≤ 1048576
  · go_enter Trym.func3, Trym.ntmps3
    go_wp2_with (first | (go_at_call 11; go_in))
    refine (zzname_any a0 h _).mono ?_
    rintro e w' ⟨rfl, pos, rfl⟩
    go_wp2_with fail
    refine (model_any a0 h _).mono ?_
    rintro e w' ⟨rfl, rfl⟩
    go_wp2_with fail
    go_ret
    exact ⟨rfl, grown_iter _ _ _⟩
  · go_enter Trym.func3, Trym.ntmps3
    go_wp2_with (first | (go_at_call 11; go_in))
    all_goals (go_ret; exact ⟨rfl, Grown.refl _⟩)

end Go.Proofs.Qxb6000902aMods.fnIsNetworkNameMatchesByteModel
