/- zzParseSource: the walks at what (Source).String prints. -/
import Derived.Test.Qxb6000902aModsSrc
namespace Go.Proofs.Qxb6000902aMods
open Go.ChangeShapes Go.WideShapes Go.ChangeAt Go.RowKit
set_option linter.unusedVariables false

theorem extract_list (t : ByteArray) (i j : Nat) : (t.extract i j).toList = (t.toList.drop i).take (j - i) := by
  rw [ByteArray.toList_eq, ByteArray.toList_eq, ByteArray.data_extract, Array.toList_extract]
theorem size_list (t : ByteArray) : t.size = t.toList.length := by
  rw [ByteArray.toList_eq]; rfl

theorem net_not_pods (s : ByteArray) : ((netw ++ s).toList == [115, 116, 97, 116, 117, 115, 46, 112, 111, 100, 73, 80, 115]) = false := by
  rw [append_list, netw_list]; rfl
theorem net_size (s : ByteArray) : (netw ++ s).size = 8 + s.size := by
  rw [size_list, append_list, netw_list, size_list]; simp; omega
theorem net_head (s : ByteArray) : (((netw ++ s).extract 0 8).toList == [110, 101, 116, 119, 111, 114, 107, 32]) = true := by
  rw [extract_list, append_list, netw_list]; simp
theorem net_tail (s : ByteArray) : (((netw ++ s).extract 8 (netw ++ s).size).toList == s.toList) = true := by
  rw [extract_list, net_size, append_list, netw_list, size_list]; simp

set_option maxHeartbeats 400000 in
theorem parse_pods (w : World) :
    Calls Trym.prog 27 #[.string pods] w fun e w' => e = .returned (.tuple #[.string ByteArray.empty, .bool true]) ∧ w' = w := by
  have h : (pods.toList == [115, 116, 97, 116, 117, 115, 46, 112, 111, 100, 73, 80, 115]) = true := by rw [pods_list]; rfl
  go_enter Trym.func27, Trym.ntmps27
  go_wp2
  go_ret2
  exact ⟨rfl, rfl⟩
set_option maxHeartbeats 400000 in
theorem parse_net (t : ByteArray) (ht : t.size ≤ 2000000) (hl : 8 < t.size) (h1 : (t.toList == [115, 116, 97, 116, 117, 115, 46, 112, 111, 100, 73, 80, 115]) = false)
    (h2 : ((t.extract 0 8).toList == [110, 101, 116, 119, 111, 114, 107, 32]) = true) (w : World) :
    Calls Trym.prog 27 #[.string t] w fun e w' => e = .returned (.tuple #[.string (t.extract 8 t.size), .bool true]) ∧ w' = w := by
  go_enter Trym.func27, Trym.ntmps27
  go_wp2
  go_ret2
  exact ⟨rfl, rfl⟩

set_option maxHeartbeats 400000 in
theorem trips_net (s t : ByteArray) (hs : s.size ≤ 1048576) (e1 : src s = t) (ht : t.size ≤ 2000000) (hl : 8 < t.size) (h1 : (t.toList == [115, 116, 97, 116, 117, 115, 46, 112, 111, 100, 73, 80, 115]) = false)
    (h2 : ((t.extract 0 8).toList == [110, 101, 116, 119, 111, 114, 107, 32]) = true) (h3 : ((t.extract 8 t.size).toList == s.toList) = true) (w : World) :
    Calls Trym.prog 9 #[.string s] w fun e w' => e = .returned (.bool true) ∧ Grown w w' := by
  have E1 : Hid (src s = t) := e1
  have H1 : Hid _ := h1
  have H2 : Hid _ := h2
  clear e1 h1 h2
  go_enter Trym.func9, Trym.ntmps9
  go_wp2_with (first | (go_at_call 26; go_in))
  refine (zzstring_any s hs _).mono ?_
  rintro e w' ⟨rfl, rfl⟩
  rw [E1.out]
  go_wp2_with fail
  refine (parse_net t ht hl H1.out H2.out _).mono ?_
  rintro e w' ⟨rfl, rfl⟩
  go_wp2_with fail
  go_ret
  exact ⟨rfl, (Grown.refl _).alloc _ _⟩
set_option maxHeartbeats 400000 in
theorem trips_pods (s : ByteArray) (hs : s.size ≤ 1048576) (e1 : src s = pods) (h3 : s.toList.isEmpty = true) (w : World) :
    Calls Trym.prog 9 #[.string s] w fun e w' => e = .returned (.bool true) ∧ Grown w w' := by
  have E1 : Hid (src s = pods) := e1
  have H3 : Hid _ := h3
  clear e1 h3
  go_enter Trym.func9, Trym.ntmps9
  go_wp2_with (first | (go_at_call 26; go_in))
  refine (zzstring_any s hs _).mono ?_
  rintro e w' ⟨rfl, rfl⟩
  rw [E1.out]
  go_wp2_with fail
  refine (parse_pods _).mono ?_
  rintro e w' ⟨rfl, rfl⟩
  go_wp2_with fail
  go_ret
  exact ⟨congrArg (fun b => Ending.returned (Value.bool b)) H3.out, (Grown.refl _).alloc _ _⟩
end Go.Proofs.Qxb6000902aMods
