/- THE WALKS OF xtimes, mul, ZZmul: each computes the plain function of Qxb6605413aModsPlain and leaves the world as it was. -/
import Derived.Test.Qxb6605413aModsRows
import Derived.Test.Qxb6605413aModsPlain
import Derived.WalkKit
import Derived.ProofKit
import Derived.LoopTactic
import Derived.Laws.BitsAllLaws
namespace Go.Proofs.Qxb6605413aMods
open Go.ChangeShapes Go.WideShapes Go.ChangeAt Go.RowKit
open Plain

theorem ret_int {k : IntKind} {a b : Int} (h : a = b) : Ending.returned (.int k a) = .returned (.int k b) := by rw [h]
theorem val_int {k : IntKind} {a b : Int} (h : a = b) : Value.int k a = .int k b := by rw [h]

theorem wrap_nat (n : Nat) : IntKind.u64.wrap (n : Int) = ((n % 18446744073709551616 : Nat) : Int) := by
  rw [IntKind.wrap_u64]; omega

theorem xts_eq (a : Nat) (h1 : a < 18446744073709551616) :
    bits BinOp.xor IntKind.u64 (IntKind.u64.wrap (bits BinOp.and IntKind.u64 (a : Int) 9187201950435737471 * 2))
      (IntKind.u64.wrap (bits BinOp.and IntKind.u64 ((a : Int) / 128) 72340172838076673 * 27)) = ((xts a : Nat) : Int) := by
  have e1 : bits BinOp.and IntKind.u64 (a : Int) 9187201950435737471 = ((a &&& 9187201950435737471 : Nat) : Int) := u64_and_nat a 9187201950435737471 h1 (by decide)
  have e2 : bits BinOp.and IntKind.u64 ((a : Int) / 128) 72340172838076673 = ((a / 128 &&& 72340172838076673 : Nat) : Int) := u64_and_nat (a / 128) 72340172838076673 (by omega) (by decide)
  rw [e1, e2, show ((a &&& 9187201950435737471 : Nat) : Int) * 2 = (((a &&& 9187201950435737471) * 2 : Nat) : Int) from by omega,
    show ((a / 128 &&& 72340172838076673 : Nat) : Int) * 27 = (((a / 128 &&& 72340172838076673) * 27 : Nat) : Int) from by omega, wrap_nat, wrap_nat]
  exact u64_xor_nat _ _ (Nat.mod_lt _ (by decide)) (Nat.mod_lt _ (by decide))

theorem pK_eq (a b k : Nat) (ha : a < 18446744073709551616) (hb : b < 18446744073709551616) :
    bits BinOp.xor IntKind.u64 ((pK a b k : Nat) : Int) (bits BinOp.and IntKind.u64 ((aK a k : Nat) : Int)
      (IntKind.u64.wrap (bits BinOp.and IntKind.u64 ((b : Int) / 2 ^ k) 72340172838076673 * 255))) = ((pK a b (k + 1) : Nat) : Int) := by
  have e0 : (b : Int) / 2 ^ k = ((b / 2 ^ k : Nat) : Int) := by simp
  have hd : b / 2 ^ k < 18446744073709551616 := Nat.lt_of_le_of_lt (Nat.div_le_self _ _) hb
  have e2 : bits BinOp.and IntKind.u64 ((b / 2 ^ k : Nat) : Int) 72340172838076673 = ((b / 2 ^ k &&& 72340172838076673 : Nat) : Int) := u64_and_nat (b / 2 ^ k) 72340172838076673 hd (by decide)
  rw [e0, e2, show ((b / 2 ^ k &&& 72340172838076673 : Nat) : Int) * 255 = (((b / 2 ^ k &&& 72340172838076673) * 255 : Nat) : Int) from by omega, wrap_nat]
  rw [u64_and_nat _ _ (aK_lt a ha k) (Nat.mod_lt _ (by decide)), u64_xor_nat _ _ (pK_lt a b k) (and_lt (Nat.mod_lt _ (by decide)))]
  rfl

set_option maxHeartbeats 400000 in
theorem xtimes_any (a : Nat) (h1 : a < 18446744073709551616) (w : World) :
    Calls Trym.prog 22 #[.int .u64 a] w fun e w' => e = .returned (.int .u64 (xts a : Nat)) ∧ w' = w := by
  go_enter Trym.func22, Trym.ntmps22
  go_wp2
  go_ret
  exact ⟨ret_int (xts_eq a h1), rfl⟩

set_option maxHeartbeats 400000 in
theorem mul_any (a b : Nat) (h1 : a < 18446744073709551616) (h2 : b < 18446744073709551616) (w : World) :
    Calls Trym.prog 16 #[.int .u64 a, .int .u64 b] w fun e w' => e = .returned (.int .u64 (mulN a b : Nat)) ∧ w' = w := by
  go_enter Trym.func16, Trym.ntmps16
  go_wp2
  go_loop [0, 5, 7] (fun x p i => ∃ k : Nat, k ≤ 8 ∧ i = .int .i64 k ∧ x = .int .u64 (aK a k : Nat) ∧ p = .int .u64 (pK a b k : Nat)) (fun _ _ i => 8 - (intOf i).toNat)
  case atStart => exact ⟨0, Nat.zero_le _, rfl, rfl, rfl⟩
  case round =>
    obtain ⟨k, hk, rfl, rfl, rfl⟩ := hrel
    have ha := aK_lt a h1 k
    by_cases hlt : k < 8
    · go_wp2_with (go_at_call 22; refine (xtimes_any (aK a k) ha _).mono ?_; rintro e w' ⟨rfl, rfl⟩)
      go_round
      case rel => exact ⟨k + 1, by omega, by go_num, rfl, val_int (pK_eq a b k h1 h2)⟩
      case measure => simp [intOf]; omega
    · have hk8 : k = 8 := by omega
      subst hk8
      go_wp2
      go_ret
      exact ⟨rfl, rfl⟩

set_option maxHeartbeats 400000 in
theorem zzmul_any (a b : Nat) (h1 : a < 18446744073709551616) (h2 : b < 18446744073709551616) (w : World) :
    Calls Trym.prog 9 #[.int .u64 a, .int .u64 b] w fun e w' => e = .returned (.int .u64 (mulN a b : Nat)) ∧ w' = w := by
  go_enter Trym.func9, Trym.ntmps9
  go_wp2_with (go_at_call 16; refine (mul_any a b h1 h2 _).mono ?_; rintro e w' ⟨rfl, rfl⟩)
  go_ret
  exact ⟨rfl, rfl⟩
end Go.Proofs.Qxb6605413aMods
