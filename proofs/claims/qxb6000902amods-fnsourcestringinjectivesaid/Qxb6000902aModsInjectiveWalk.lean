/- The walk for Rows.FnSourceStringInjectiveSaid: the frame is the guide's shell for this function, the walk is ours. -/
import Derived.Test.Qxb6000902aModsRows
import Derived.Test.Qxb6000902aModsSrc
import Derived.WalkKit
import Derived.ProofKit
import Derived.OpenShut
import Derived.ShutString
namespace Go.Proofs.Qxb6000902aMods.fnSourceStringInjective
open Go.ChangeShapes Go.WideShapes Go.ChangeAt Go.RowKit
open Go.ChangeMaps (open_string shut_string)
set_option linter.unusedVariables false      -- a walk need not use every 'w<i>' (that an integer argument fits its kind)


/-! ### STEP 1: THE WALK: the Go text returns true. 'Grown w w'': the world has at most new blocks (Derived/RowKit3.lean). Part the cases AHEAD of 'go_enter' where a test parts the walk; take each callee by a contract of your own. -/
theorem walk (a0 : ByteArray) (a1 : ByteArray) (w0 : a0.size ≤ maxLen) (w1 : a1.size ≤ maxLen) (w : World) :
    Calls Trym.prog 10 #[.string a0, .string a1] w fun e w' => e = .returned (.bool true) ∧ Grown w w' := by
  unfold maxLen at w0 w1
  by_cases h : a0.size + a1.size ≤ 1048576
  · by_cases ha : a0.size ≤ 524288
    · by_cases hb : a1.size ≤ 524288
      · have HI : Hid _ := src_inj a0 a1
        go_enter Trym.func10, Trym.ntmps10
        go_wp2_with (first | (go_at_call 29; go_in))
        refine (zzstring_any a0 (by omega) _).mono ?_
        rintro e w' ⟨rfl, rfl⟩
        go_wp2_with fail
        refine (zzstring_any a1 (by omega) _).mono ?_
        rintro e w' ⟨rfl, rfl⟩
        go_wp2_with fail
        go_ret
        exact ⟨congrArg (fun b => Ending.returned (Value.bool b)) HI.out, ((Grown.refl _).alloc _ _).alloc _ _⟩
      · go_enter Trym.func10, Trym.ntmps10
        go_wp2_with (first | (go_at_call 29; go_in))
        all_goals (go_ret; exact ⟨rfl, Grown.refl _⟩)
    · go_enter Trym.func10, Trym.ntmps10
      go_wp2_with (first | (go_at_call 29; go_in))
      all_goals (go_ret; exact ⟨rfl, Grown.refl _⟩)
  · go_enter Trym.func10, Trym.ntmps10
    go_wp2_with (first | (go_at_call 29; go_in))
    all_goals (go_ret; exact ⟨rfl, Grown.refl _⟩)

end Go.Proofs.Qxb6000902aMods.fnSourceStringInjective
