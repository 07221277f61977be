/- The walk for Rows.FnSourceStringRoundTripsSaid: the frame is the guide's shell for this function, the walk is ours. -/
import Derived.Test.Qxb6000902aModsRows
import Derived.Test.Qxb6000902aModsSrc
import Derived.Test.Qxb6000902aModsParse
import Derived.WalkKit
import Derived.ProofKit
import Derived.OpenShut
import Derived.ShutString
namespace Go.Proofs.Qxb6000902aMods.fnSourceStringRoundTrips
open Go.ChangeShapes Go.WideShapes Go.ChangeAt Go.RowKit
open Go.ChangeMaps (open_string shut_string)
set_option linter.unusedVariables false      -- a walk need not use every 'w<i>' (that an integer argument fits its kind)


/-! ### STEP 1: THE WALK: the Go text returns true. 'Grown w w'': the world has at most new blocks (Derived/RowKit3.lean). Part the cases AHEAD of 'go_enter' where a test parts the walk; take each callee by a contract of your own. -/
theorem walk (a0 : ByteArray) (w0 : a0.size ≤ maxLen) (w : World) :
    Calls Trym.prog 9 #[.string a0] w fun e w' => e = .returned (.bool true) ∧ Grown w w' := by
  unfold maxLen at w0
  by_cases h : a0.size ≤ 1048576
  · by_cases he : a0.toList.isEmpty = true
    · exact trips_pods a0 h (by unfold src; rw [if_pos he]) he w
    · have e1 : src a0 = netw ++ a0 := by unfold src; rw [if_neg he]
      have hz : 0 < a0.size := by
        rw [size_list]
        cases hl : a0.toList with
        | nil => rw [hl] at he; exact absurd rfl he
        | cons c l => simp
      have hn := net_size a0
      exact trips_net a0 _ h e1 (by omega) (by omega) (net_not_pods a0) (net_head a0) (net_tail a0) w
  · go_enter Trym.func9, Trym.ntmps9
    go_wp2_with (first | (go_at_call 26; go_in))
    all_goals (go_ret; exact ⟨rfl, Grown.refl _⟩)

end Go.Proofs.Qxb6000902aMods.fnSourceStringRoundTrips
