/- THE WALKS OF zzGF8Mul AND zzMulModel. -/
import Derived.Test.Qxb6605413aModsRows
import Derived.Test.Qxb6605413aModsPlainGf8
import Derived.WalkKit
import Derived.ProofKit
import Derived.LoopTactic
import Derived.Laws.BitsAllLaws
namespace Go.Proofs.Qxb6605413aMods
open Go.ChangeShapes Go.WideShapes Go.ChangeAt Go.RowKit
open Plain
set_option linter.unusedVariables false

theorem ret8_int {k : IntKind} {a b : Int} (h : a = b) : Ending.returned (.int k a) = .returned (.int k b) := by rw [h]
theorem val8_int {k : IntKind} {a b : Int} (h : a = b) : Value.int k a = .int k b := by rw [h]

theorem cast_div (b k : Nat) : (b : Int) / 2 ^ k = ((b / 2 ^ k : Nat) : Int) := by simp
theorem test8 (b k : Nat) (hb : b < 256) : (bits BinOp.and IntKind.u8 ((b : Int) / 2 ^ k) 1 == 1) = b.testBit k := by
  have hd : b / 2 ^ k < 256 := Nat.lt_of_le_of_lt (Nat.div_le_self _ _) hb
  have e : bits BinOp.and IntKind.u8 ((b / 2 ^ k : Nat) : Int) 1 = ((b / 2 ^ k % 2 : Nat) : Int) := by
    refine (u8_and_nat _ 1 hd (by decide)).trans ?_
    rw [Nat.and_one_is_mod]
  rw [cast_div, e, testBit_mod]
  rcases (by omega : b / 2 ^ k % 2 = 0 ∨ b / 2 ^ k % 2 = 1) with h | h <;> rw [h] <;> rfl
theorem test16 (b k : Nat) (hb : b < 65536) : (bits BinOp.and IntKind.u16 ((b : Int) / 2 ^ k) 1 == 1) = b.testBit k := by
  have hd : b / 2 ^ k < 65536 := Nat.lt_of_le_of_lt (Nat.div_le_self _ _) hb
  have e : bits BinOp.and IntKind.u16 ((b / 2 ^ k : Nat) : Int) 1 = ((b / 2 ^ k % 2 : Nat) : Int) := by
    refine (u16_and_nat _ 1 hd (by decide)).trans ?_
    rw [Nat.and_one_is_mod]
  rw [cast_div, e, testBit_mod]
  rcases (by omega : b / 2 ^ k % 2 = 0 ∨ b / 2 ^ k % 2 = 1) with h | h <;> rw [h] <;> rfl

theorem small16 (c : Nat) (h : c < 65536) : (c : Int) % 65536 = (c : Int) := by omega
theorem small64 (c : Nat) (h : c < 18446744073709551616) : (c : Int) % 18446744073709551616 = (c : Int) := by omega
theorem lane_int (a k : Nat) : (a : Int) / 2 ^ (8 * k) % 256 = ((lane k a : Nat) : Int) := by
  unfold lane
  rw [cast_div]
  omega
theorem lay_step (F : Nat → Nat) (hF : ∀ i, F i < 256) (k : Nat) (hk : k < 8) :
    bits BinOp.or IntKind.u64 ((layK F k : Nat) : Int) (IntKind.u64.wrap (((F k : Nat) : Int) * 2 ^ (8 * k))) = ((layK F (k + 1) : Nat) : Int) := by
  have e : ((F k : Nat) : Int) * 2 ^ (8 * k) = ((F k * 2 ^ (8 * k) : Nat) : Int) := by simp
  have hs := put_lt k (F k) hk (hF k)
  rw [e, IntKind.wrap_u64, small64 _ hs, u64_or_nat _ _ (layK_lt F hF k (by omega)) hs]
  rfl
theorem q1_yes (a b k : Nat) (ha : a < 256) (hk : k < 8) (ht : b.testBit k = true) :
    bits BinOp.xor IntKind.u16 ((q1 a b k : Nat) : Int) (IntKind.u16.wrap ((a : Int) * 2 ^ k)) = ((q1 a b (k + 1) : Nat) : Int) := by
  have e : (a : Int) * 2 ^ k = ((a <<< k : Nat) : Int) := by rw [Nat.shiftLeft_eq]; simp
  have hs := shl_lt a k ha hk
  rw [e, IntKind.wrap_u16, small16 _ hs, u16_xor_nat _ _ (q1_lt a b k ha (by omega)) hs]
  show _ = ((q1 a b k ^^^ pickB (b.testBit k) (a <<< k) : Nat) : Int)
  rw [ht]
  rfl
theorem q1_no (a b k : Nat) (ht : b.testBit k = false) : q1 a b k = q1 a b (k + 1) := by
  show _ = q1 a b k ^^^ pickB (b.testBit k) (a <<< k)
  rw [ht]
  simp [pickB]
theorem q2_at (p m : Nat) (h8 : 8 ≤ m) (h14 : m ≤ 14) : q2 p (14 - (m - 1)) = q2 p (14 - m) ^^^ pickB ((q2 p (14 - m)).testBit m) (283 <<< (m - 8)) := by
  rw [show 14 - (m - 1) = (14 - m) + 1 by omega]
  show q2 p (14 - m) ^^^ pickB ((q2 p (14 - m)).testBit (14 - (14 - m))) (283 <<< (6 - (14 - m))) = _
  rw [show 14 - (14 - m) = m by omega, show 6 - (14 - m) = m - 8 by omega]
theorem q2_yes (p m : Nat) (hp : p < 65536) (h8 : 8 ≤ m) (h14 : m ≤ 14) (ht : (q2 p (14 - m)).testBit m = true) :
    bits BinOp.xor IntKind.u16 ((q2 p (14 - m) : Nat) : Int) (IntKind.u16.wrap (283 * 2 ^ (m - 8))) = ((q2 p (14 - (m - 1)) : Nat) : Int) := by
  have e : (283 : Int) * (2 : Int) ^ (m - 8) = ((283 <<< (m - 8) : Nat) : Int) := by rw [Nat.shiftLeft_eq]; simp
  have hs : 283 <<< (m - 8) < 65536 := by rw [show m - 8 = 6 - (14 - m) by omega]; exact shr_lt _
  rw [e, IntKind.wrap_u16, small16 _ hs, u16_xor_nat _ _ (q2_lt p _ hp) hs, q2_at p m h8 h14, ht]
  rfl
theorem q2_no (p m : Nat) (h8 : 8 ≤ m) (h14 : m ≤ 14) (ht : (q2 p (14 - m)).testBit m = false) : q2 p (14 - m) = q2 p (14 - (m - 1)) := by
  rw [q2_at p m h8 h14, ht]
  simp [pickB]

set_option maxHeartbeats 800000 in
theorem gf8_any (a b : Nat) (h1 : a < 256) (h2 : b < 256) (w : World) :
    Calls Trym.prog 17 #[.int .u8 a, .int .u8 b] w fun e w' => e = .returned (.int .u8 (g8 a b : Nat)) ∧ w' = w := by
  go_enter Trym.func17, Trym.ntmps17
  go_wp2
  go_loop [5, 6] (fun p i => ∃ k : Nat, k ≤ 8 ∧ i = .int .i64 k ∧ p = .int .u16 (q1 a b k : Nat)) (fun _ i => 8 - (intOf i).toNat)
  case atStart => exact ⟨0, Nat.zero_le _, rfl, rfl⟩
  case round =>
    obtain ⟨k, hk, rfl, rfl⟩ := hrel
    by_cases hlt : k < 8
    · have ht := test8 b k h2
      cases hb : b.testBit k
      · have HB : Hid (b.testBit k = false) := hb
        rw [hb] at ht
        clear hb
        go_wp2
        go_round
        case rel => exact ⟨k + 1, by omega, by go_num, val8_int (by rw [← q1_no a b k HB.out])⟩
        case measure => simp [intOf]; omega
      · have HB : Hid (b.testBit k = true) := hb
        rw [hb] at ht
        clear hb
        go_wp2
        go_round
        case rel => exact ⟨k + 1, by omega, by go_num, val8_int (q1_yes a b k h1 hlt HB.out)⟩
        case measure => simp [intOf]; omega
    · have hk8 : k = 8 := by omega
      subst hk8
      have hp : q1 a b 8 < 65536 := q1_lt a b 8 h1 (Nat.le_refl _)
      generalize hP : q1 a b 8 = P at hp ⊢
      have HP : Hid (q1 a b 8 = P) := hP
      clear hP
      go_wp2
      go_loop [5, 7] (fun p i => ∃ m : Nat, 7 ≤ m ∧ m ≤ 14 ∧ i = .int .i64 m ∧ p = .int .u16 (q2 P (14 - m) : Nat)) (fun _ i => (intOf i).toNat)
      case atStart => exact ⟨14, by omega, by omega, rfl, rfl⟩
      case round =>
        obtain ⟨m, hm1, hm2, rfl, rfl⟩ := hrel
        have hq := q2_lt P (14 - m) hp
        by_cases hlt : 8 ≤ m
        · have ht := test16 (q2 P (14 - m)) m hq
          cases hb : (q2 P (14 - m)).testBit m
          · have HB : Hid ((q2 P (14 - m)).testBit m = false) := hb
            rw [hb] at ht
            clear hb
            go_wp2
            go_round
            case rel => exact ⟨m - 1, by omega, by omega, by go_num, val8_int (by rw [← q2_no P m hlt hm2 HB.out])⟩
            case measure => simp [intOf]; omega
          · have HB : Hid ((q2 P (14 - m)).testBit m = true) := hb
            rw [hb] at ht
            clear hb
            go_wp2
            go_round
            case rel => exact ⟨m - 1, by omega, by omega, by go_num, val8_int (q2_yes P m hp hlt hm2 HB.out)⟩
            case measure => simp [intOf]; omega
        · have hm7 : m = 7 := by omega
          subst hm7
          go_wp2
          go_ret
          exact ⟨ret8_int (by unfold g8; rw [HP.out]; rfl), rfl⟩

set_option maxHeartbeats 800000 in
theorem model_any (a b : Nat) (h1 : a < 18446744073709551616) (h2 : b < 18446744073709551616) (w : World) :
    Calls Trym.prog 10 #[.int .u64 a, .int .u64 b] w fun e w' => e = .returned (.int .u64 (layK (fun i => g8 (lane i a) (lane i b)) 8 : Nat)) ∧ w' = w := by
  go_enter Trym.func10, Trym.ntmps10
  go_wp2
  generalize hF : (fun i => g8 (lane i a) (lane i b)) = F
  go_loop [5, 6] (fun r i => ∃ k : Nat, k ≤ 8 ∧ i = .int .i64 k ∧ r = .int .u64 (layK F k : Nat)) (fun _ i => 8 - (intOf i).toNat)
  case atStart => exact ⟨0, Nat.zero_le _, rfl, rfl⟩
  case round =>
    obtain ⟨k, hk, rfl, rfl⟩ := hrel
    by_cases hlt : k < 8
    · go_wp2_with fail
      rw [lane_int a k, lane_int b k]
      refine (gf8_any (lane k a) (lane k b) (lane_lt _ _) (lane_lt _ _) _).mono ?_
      rintro e w' ⟨rfl, rfl⟩
      have hg : g8 (lane k a) (lane k b) = F k := by rw [← hF]
      rw [hg]
      clear hg
      have HF : Hid _ := lay_step F (fun i => by rw [← hF]; exact g8_lt _ _) k hlt
      have hFk : F k < 256 := by rw [← hF]; exact g8_lt _ _
      have HH : Hid _ := hF
      clear hF
      go_wp2
      go_round
      case rel => exact ⟨k + 1, by omega, by go_num, val8_int HF.out⟩
      case measure => simp [intOf]; omega
    · have hk8 : k = 8 := by omega
      subst hk8
      go_wp2
      go_ret
      exact ⟨rfl, rfl⟩
end Go.Proofs.Qxb6605413aMods
