/- (Source).String AND ZZSourceString: the walks, and the plain law of what they print. -/
import Derived.Test.Qxb6000902aModsRows
import Derived.WalkKit
import Derived.ProofKit
import Derived.LoopTactic
import Derived.Laws.Strings
namespace Go.Proofs.Qxb6000902aMods
open Go.ChangeShapes Go.WideShapes Go.ChangeAt Go.RowKit
set_option linter.unusedVariables false

def netw : ByteArray := { data := #[110, 101, 116, 119, 111, 114, 107, 32] }
def pods : ByteArray := { data := #[115, 116, 97, 116, 117, 115, 46, 112, 111, 100, 73, 80, 115] }
/-- (Source).String -/
def src (s : ByteArray) : ByteArray := if s.toList.isEmpty = true then pods else netw ++ s

theorem netw_list : netw.toList = [110, 101, 116, 119, 111, 114, 107, 32] := by rw [ByteArray.toList_eq]; rfl
theorem pods_list : pods.toList = [115, 116, 97, 116, 117, 115, 46, 112, 111, 100, 73, 80, 115] := by rw [ByteArray.toList_eq]; rfl
theorem append_list (a b : ByteArray) : (a ++ b).toList = a.toList ++ b.toList := by
  rw [ByteArray.toList_eq, ByteArray.toList_eq, ByteArray.toList_eq, ByteArray.data_append, Array.toList_append]
theorem src_list (s : ByteArray) : (src s).toList = if s.toList = [] then [115, 116, 97, 116, 117, 115, 46, 112, 111, 100, 73, 80, 115] else [110, 101, 116, 119, 111, 114, 107, 32] ++ s.toList := by
  unfold src
  cases h : s.toList with
  | nil => simp [pods_list]
  | cons c l => simp [append_list, netw_list, h]
/-- Two sources print alike just when they are alike. -/
theorem src_inj (a b : ByteArray) : (((src a).toList == (src b).toList) == (a.toList == b.toList)) = true := by
  rw [src_list, src_list]
  by_cases ha : a.toList = []
  · by_cases hb : b.toList = []
    · simp [ha, hb]
    · have : ([] == b.toList) = false := by cases h : b.toList with | nil => exact absurd h hb | cons c l => rfl
      simp [ha, hb, this]
  · by_cases hb : b.toList = []
    · have : (a.toList == []) = false := by cases h : a.toList with | nil => exact absurd h ha | cons c l => rfl
      simp [ha, hb, this]
    · simp only [ha, hb, if_false]
      simp

set_option maxHeartbeats 400000 in
theorem string_any (s : ByteArray) (hs : s.size ≤ 1048576) (w : World) :
    Calls Trym.prog 33 #[.agg #[.string s]] w fun e w' => e = .returned (.string (src s)) ∧ w' = w.alloc (.cells #[.string s] 32) := by
  go_enter Trym.func33, Trym.ntmps33
  go_wp2
  · have h : s.toList.isEmpty = true := by assumption
    have e : src s = pods := by unfold src; rw [if_pos h]
    go_ret
    exact ⟨by rw [e]; rfl, rfl⟩
  · have h : s.toList.isEmpty = false := by assumption
    have e : src s = netw ++ s := by unfold src; rw [if_neg (by rw [h]; exact Bool.false_ne_true)]
    go_ret
    exact ⟨by rw [e]; rfl, rfl⟩

set_option maxHeartbeats 400000 in
theorem zzstring_any (s : ByteArray) (hs : s.size ≤ 1048576) (w : World) :
    Calls Trym.prog 28 #[.string s] w fun e w' => e = .returned (.string (src s)) ∧ w' = w.alloc (.cells #[.string s] 32) := by
  go_enter Trym.func28, Trym.ntmps28
  go_wp2_with fail
  refine (string_any s hs _).mono ?_
  rintro e w' ⟨rfl, rfl⟩
  go_wp2_with fail
  go_ret
  exact ⟨rfl, rfl⟩
end Go.Proofs.Qxb6000902aMods
