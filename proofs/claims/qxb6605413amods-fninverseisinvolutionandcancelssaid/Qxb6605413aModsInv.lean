/- THE WALKS OF inverse AND ZZinverse. -/
import Derived.Test.Qxb6605413aModsMul
import Derived.Test.Qxb6605413aModsPlainGf8
namespace Go.Proofs.Qxb6605413aMods
open Go.ChangeShapes Go.WideShapes Go.ChangeAt Go.RowKit
open Plain

set_option maxHeartbeats 1600000 in
theorem inverse_any (x : Nat) (hx : x < 18446744073709551616) (w : World) :
    Calls Trym.prog 18 #[.int .u64 x] w fun e w' => e = .returned (.int .u64 (invN x : Nat)) ∧ w' = w := by
  have e2 : inv2 x < 18446744073709551616 := mulN_lt _ _
  have e3 : inv3 x < 18446744073709551616 := mulN_lt _ _
  have e6 : inv6 x < 18446744073709551616 := mulN_lt _ _
  have e12 : inv12 x < 18446744073709551616 := mulN_lt _ _
  have e15 : inv15 x < 18446744073709551616 := mulN_lt _ _
  have e30 : inv30 x < 18446744073709551616 := mulN_lt _ _
  have e60 : inv60 x < 18446744073709551616 := mulN_lt _ _
  have e120 : inv120 x < 18446744073709551616 := mulN_lt _ _
  have e240 : inv240 x < 18446744073709551616 := mulN_lt _ _
  have e14 : inv14 x < 18446744073709551616 := mulN_lt _ _
  go_enter Trym.func18, Trym.ntmps18
  go_wp2_with fail
  refine (mul_any x x hx hx _).mono ?_
  rintro e w' ⟨rfl, rfl⟩
  rw [show mulN x x = inv2 x from rfl]
  go_wp2_with fail
  refine (mul_any (inv2 x) x e2 hx _).mono ?_
  rintro e w' ⟨rfl, rfl⟩
  rw [show mulN (inv2 x) x = inv3 x from rfl]
  go_wp2_with fail
  refine (mul_any (inv3 x) (inv3 x) e3 e3 _).mono ?_
  rintro e w' ⟨rfl, rfl⟩
  rw [show mulN (inv3 x) (inv3 x) = inv6 x from rfl]
  go_wp2_with fail
  refine (mul_any (inv6 x) (inv6 x) e6 e6 _).mono ?_
  rintro e w' ⟨rfl, rfl⟩
  rw [show mulN (inv6 x) (inv6 x) = inv12 x from rfl]
  go_wp2_with fail
  refine (mul_any (inv12 x) (inv3 x) e12 e3 _).mono ?_
  rintro e w' ⟨rfl, rfl⟩
  rw [show mulN (inv12 x) (inv3 x) = inv15 x from rfl]
  go_wp2_with fail
  refine (mul_any (inv15 x) (inv15 x) e15 e15 _).mono ?_
  rintro e w' ⟨rfl, rfl⟩
  rw [show mulN (inv15 x) (inv15 x) = inv30 x from rfl]
  go_wp2_with fail
  refine (mul_any (inv30 x) (inv30 x) e30 e30 _).mono ?_
  rintro e w' ⟨rfl, rfl⟩
  rw [show mulN (inv30 x) (inv30 x) = inv60 x from rfl]
  go_wp2_with fail
  refine (mul_any (inv60 x) (inv60 x) e60 e60 _).mono ?_
  rintro e w' ⟨rfl, rfl⟩
  rw [show mulN (inv60 x) (inv60 x) = inv120 x from rfl]
  go_wp2_with fail
  refine (mul_any (inv120 x) (inv120 x) e120 e120 _).mono ?_
  rintro e w' ⟨rfl, rfl⟩
  rw [show mulN (inv120 x) (inv120 x) = inv240 x from rfl]
  go_wp2_with fail
  refine (mul_any (inv12 x) (inv2 x) e12 e2 _).mono ?_
  rintro e w' ⟨rfl, rfl⟩
  rw [show mulN (inv12 x) (inv2 x) = inv14 x from rfl]
  go_wp2_with fail
  refine (mul_any (inv240 x) (inv14 x) e240 e14 _).mono ?_
  rintro e w' ⟨rfl, rfl⟩
  rw [show mulN (inv240 x) (inv14 x) = invN x from rfl]
  go_wp2_with fail
  go_ret
  exact ⟨rfl, rfl⟩

set_option maxHeartbeats 400000 in
theorem zzinverse_any (x : Nat) (hx : x < 18446744073709551616) (w : World) :
    Calls Trym.prog 11 #[.int .u64 x] w fun e w' => e = .returned (.int .u64 (invN x : Nat)) ∧ w' = w := by
  go_enter Trym.func11, Trym.ntmps11
  go_wp2_with fail
  refine (inverse_any x hx _).mono ?_
  rintro e w' ⟨rfl, rfl⟩
  go_wp2_with fail
  go_ret
  exact ⟨rfl, rfl⟩
end Go.Proofs.Qxb6605413aMods
