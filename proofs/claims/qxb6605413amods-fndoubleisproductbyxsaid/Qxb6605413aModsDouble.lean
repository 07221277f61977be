/- THE WALKS OF double AND ZZdouble. -/
import Derived.Test.Qxb6605413aModsBlock
import Derived.Test.Qxb6605413aModsPlainDbl
import Derived.RegionTactic
import Derived.BigRegion
import Derived.Deep.Cut
namespace Go.Proofs.Qxb6605413aMods
open Go.ChangeShapes Go.WideShapes Go.ChangeAt Go.RowKit
attribute [local go_sem] alloc_drewN setCell_drewN

/-- The first k bytes are laid. -/
def yK (x : Nat → Nat) (k j : Nat) : Nat := if j < k then dblF x j else 0

theorem or_eq (a b : Nat) (hb : b < 256) : bits BinOp.or IntKind.u8 ((a : Int) * 2 % 256) ((b : Int) / 128) = (((a * 2 % 256) ||| (b / 128) : Nat) : Int) :=
  u8_or_nat (a * 2 % 256) (b / 128) (Nat.mod_lt _ (by decide)) (by omega)
theorem xor_eq (a b : Nat) (hb : b < 256) : bits BinOp.xor IntKind.u8 ((a : Int) * 2 % 256) ((b : Int) / 128 * 135) = (((a * 2 % 256) ^^^ (b / 128 * 135) : Nat) : Int) :=
  u8_xor_nat (a * 2 % 256) (b / 128 * 135) (Nat.mod_lt _ (by decide)) (by omega)

theorem set_round (x : Nat → Nat) (hx : ∀ i, x i < 256) (k : Nat) (hk : k < 15) :
    (bl (yK x k)).setIfInBounds k (.int .u8 (bits BinOp.or IntKind.u8 ((x k : Int) * 2 % 256) ((x (k + 1) : Int) / 128))) = bl (yK x (k + 1)) := by
  rw [or_eq _ _ (hx (k + 1)), bl_set]
  refine bl_congr _ _ fun i _ => ?_
  unfold yK
  by_cases e : i = k
  · subst e; simp [dblF, hk]
  · by_cases h : i < k
    · simp [e, h, show i < k + 1 by omega]
    · simp [e, h, show ¬ i < k + 1 by omega]
theorem set_last (x : Nat → Nat) (hx : ∀ i, x i < 256) :
    (bl (yK x 15)).setIfInBounds 15 (.int .u8 (bits BinOp.xor IntKind.u8 ((x 15 : Int) * 2 % 256) ((x 0 : Int) / 128 * 135))) = bl (dblF x) := by
  rw [xor_eq _ _ (hx 0), bl_set]
  refine bl_congr _ _ fun i hi => ?_
  unfold yK
  by_cases e : i = 15
  · subst e; simp [dblF]
  · simp [e, show i < 15 by omega]

set_option maxHeartbeats 800000 in
theorem double_any (x : Nat → Nat) (hx : ∀ i, x i < 256) (w : World) :
    Calls Trym.prog 20 #[.agg (bl x)] w fun e w' => e = .returned (.agg (bl (dblF x))) ∧ Below w.heap.size w w' := by
  go_enter Trym.func20, Trym.ntmps20
  go_wp2
  rw [bl_zero]
  go_loopw [5] (fun i wr => ∃ k n : Nat, k ≤ 15 ∧ i = .int .i64 k ∧ wr = (((w.alloc (.cells (bl x) 35)).alloc (.cells (bl fun _ => 0) 35)).alloc (.cells (bl (yK x k)) 35)).drewN n) (fun i _ => 15 - (intOf i).toNat)
  case atStart => exact ⟨0, 0, Nat.zero_le _, rfl, rfl⟩
  case round =>
    obtain ⟨k, n, hk, rfl, rfl⟩ := hrel
    by_cases hlt : k < 15
    · have g1 := bl_get x k (by omega)
      have g2 := bl_get x (k + 1) (by omega)
      have g3 := bl_get (yK x k) k (by omega)
      have h1 := hx k
      have h2 := hx (k + 1)
      have HS : Hid _ := set_round x hx k hlt
      go_wp2
      go_region
      rw [HS.out]
      go_wp2
      go_roundw
      case rel => exact ⟨k + 1, n + 1, by omega, by go_num, rfl⟩
      case measure => simp [intOf]; omega
    · have hk8 : k = 15 := by omega
      subst hk8
      have g1 := bl_get x 15 (by omega)
      have g2 := bl_get x 0 (by omega)
      have g3 := bl_get (yK x 15) 15 (by omega)
      have h1 := hx 15
      have h2 := hx 0
      have HS : Hid _ := set_last x hx
      go_upto_region 8 with fail
      rw [HS.out]
      have hr3 : row ((((w.alloc (.cells (bl x) 35)).alloc (.cells (bl fun _ => 0) 35)).alloc (.cells (bl (dblF x)) 35)).drewN n) (w.heap.size + 1 + 1) (dblF x) :=
        (row.new _ _ _ _ (by simp)).drewN n
      have hr2 : row ((((w.alloc (.cells (bl x) 35)).alloc (.cells (bl fun _ => 0) 35)).alloc (.cells (bl (dblF x)) 35)).drewN n) (w.heap.size + 1) (fun _ => 0) :=
        ((row.new _ _ _ _ (by simp)).alloc _).drewN n
      have hb : Below w.heap.size w ((((w.alloc (.cells (bl x) 35)).alloc (.cells (bl fun _ => 0) 35)).alloc (.cells (bl (dblF x)) 35)).drewN n) :=
        below_drewN' ((((Below.refl _ _).alloc (Nat.le_refl _) _).alloc (by simp) _).alloc (by simp; omega) _) n
      generalize (((w.alloc (.cells (bl x) 35)).alloc (.cells (bl fun _ => 0) 35)).alloc (.cells (bl (dblF x)) 35)).drewN n = W at hr3 hr2 hb ⊢
      go_wp2_with (first | (refine load35 rfl _ rfl _ rfl _ hr3 ?_) | (refine store35 rfl rfl _ _ rfl _ rfl _ rfl _ hr2 ?_))
      exact bodyPost_ret (result_row Trym.results20 (.inr rfl) _ _ (w.heap.size + 1) (dblF x) rfl (hr2.set _)) rfl ⟨rfl, below_setRow hb _ _ (by omega)⟩

set_option maxHeartbeats 400000 in
theorem zzdouble_any (x : Nat → Nat) (hx : ∀ i, x i < 256) (w : World) :
    Calls Trym.prog 13 #[.agg (bl x)] w fun e w' => e = .returned (.agg (bl (dblF x))) ∧ Below w.heap.size w w' := by
  go_enter Trym.func13, Trym.ntmps13
  go_upto_region 1 with fail
  rw [bl_zero]
  have hr1 : row ((w.alloc (.cells (bl x) 29)).alloc (.cells (bl fun _ => 0) 29)) w.heap.size x := (row.new _ _ _ _ rfl).alloc _
  have hr2 : row ((w.alloc (.cells (bl x) 29)).alloc (.cells (bl fun _ => 0) 29)) (w.heap.size + 1) (fun _ => 0) := row.new _ _ _ _ (by simp)
  have hb : Below w.heap.size w ((w.alloc (.cells (bl x) 29)).alloc (.cells (bl fun _ => 0) 29)) := ((Below.refl _ _).alloc (Nat.le_refl _) _).alloc (by simp) _
  generalize (w.alloc (.cells (bl x) 29)).alloc (.cells (bl fun _ => 0) 29) = W at hr1 hr2 hb ⊢
  go_wp2_with (first | (refine load29 rfl _ rfl _ rfl _ hr1 ?_))
  refine (double_any x hx W).mono ?_
  rintro e w' ⟨rfl, hb'⟩
  have hr2' := hr2.below hb'
  have hb2 := hb.trans (hb'.mono hb.size)
  go_wp2_with (first | (refine store29 rfl rfl _ _ rfl _ rfl _ rfl _ hr2' ?_))
  exact bodyPost_ret (result_row Trym.results13 (.inl rfl) _ _ (w.heap.size + 1) (dblF x) rfl (hr2'.set _)) rfl ⟨rfl, below_setRow hb2 _ _ (by omega)⟩
end Go.Proofs.Qxb6605413aMods
