/- THE WALK OF zzXor16. -/
import Derived.Test.Qxb6605413aModsBlock
import Derived.Test.Qxb6605413aModsPlainDbl
import Derived.RegionTactic
import Derived.BigRegion
import Derived.Deep.Cut
namespace Go.Proofs.Qxb6605413aMods
open Go.ChangeShapes Go.WideShapes Go.ChangeAt Go.RowKit
attribute [local go_sem] alloc_drewN setCell_drewN

def xK (x y : Nat → Nat) (k j : Nat) : Nat := if j < k then xorF x y j else 0

theorem set_xor (x y : Nat → Nat) (hx : ∀ i, x i < 256) (hy : ∀ i, y i < 256) (k : Nat) :
    (bl (xK x y k)).setIfInBounds k (.int .u8 (bits BinOp.xor IntKind.u8 (x k : Int) (y k : Int))) = bl (xK x y (k + 1)) := by
  rw [u8_xor_nat _ _ (hx k) (hy k), bl_set]
  refine bl_congr _ _ fun i _ => ?_
  unfold xK
  by_cases e : i = k
  · subst e; simp [xorF]
  · by_cases h : i < k
    · simp [e, h, show i < k + 1 by omega]
    · simp [e, h, show ¬ i < k + 1 by omega]

set_option maxHeartbeats 800000 in
theorem xor16_any (x y : Nat → Nat) (hx : ∀ i, x i < 256) (hy : ∀ i, y i < 256) (w : World) :
    Calls Trym.prog 15 #[.agg (bl x), .agg (bl y)] w fun e w' => e = .returned (.agg (bl (xorF x y))) ∧ Below w.heap.size w w' := by
  go_enter Trym.func15, Trym.ntmps15
  go_wp2
  rw [bl_zero]
  go_loopw [6] (fun i wr => ∃ k n : Nat, k ≤ 16 ∧ i = .int .i64 k ∧ wr = ((((w.alloc (.cells (bl x) 29)).alloc (.cells (bl y) 29)).alloc (.cells (bl fun _ => 0) 29)).alloc (.cells (bl (xK x y k)) 29)).drewN n) (fun i _ => 16 - (intOf i).toNat)
  case atStart => exact ⟨0, 0, Nat.zero_le _, rfl, rfl⟩
  case round =>
    obtain ⟨k, n, hk, rfl, rfl⟩ := hrel
    by_cases hlt : k < 16
    · have g1 := bl_get x k hlt
      have g2 := bl_get y k hlt
      have g3 := bl_get (xK x y k) k hlt
      have h1 := hx k
      have h2 := hy k
      have HS : Hid _ := set_xor x y hx hy k
      go_wp2
      go_region
      rw [HS.out]
      go_wp2
      go_roundw
      case rel => exact ⟨k + 1, n + 1, by omega, by go_num, rfl⟩
      case measure => simp [intOf]; omega
    · have hk8 : k = 16 := by omega
      subst hk8
      go_upto_region 6 with fail
      have e : bl (xK x y 16) = bl (xorF x y) := bl_congr _ _ fun i hi => by simp [xK, hi]
      rw [e]
      have hr3 : row (((((w.alloc (.cells (bl x) 29)).alloc (.cells (bl y) 29)).alloc (.cells (bl fun _ => 0) 29)).alloc (.cells (bl (xorF x y)) 29)).drewN n) (w.heap.size + 1 + 1 + 1) (xorF x y) :=
        (row.new _ _ _ _ (by simp)).drewN n
      have hr2 : row (((((w.alloc (.cells (bl x) 29)).alloc (.cells (bl y) 29)).alloc (.cells (bl fun _ => 0) 29)).alloc (.cells (bl (xorF x y)) 29)).drewN n) (w.heap.size + 1 + 1) (fun _ => 0) :=
        ((row.new _ _ _ _ (by simp)).alloc _).drewN n
      have hb : Below w.heap.size w (((((w.alloc (.cells (bl x) 29)).alloc (.cells (bl y) 29)).alloc (.cells (bl fun _ => 0) 29)).alloc (.cells (bl (xorF x y)) 29)).drewN n) :=
        below_drewN' (((((Below.refl _ _).alloc (Nat.le_refl _) _).alloc (by simp) _).alloc (by simp; omega) _).alloc (by simp; omega) _) n
      generalize ((((w.alloc (.cells (bl x) 29)).alloc (.cells (bl y) 29)).alloc (.cells (bl fun _ => 0) 29)).alloc (.cells (bl (xorF x y)) 29)).drewN n = W at hr3 hr2 hb ⊢
      clear e
      go_wp2_with (first | (refine load29 rfl _ rfl _ rfl _ hr3 ?_) | (refine store29 rfl rfl _ _ rfl _ rfl _ rfl _ hr2 ?_))
      exact bodyPost_ret (result_row Trym.results15 (.inl rfl) _ _ (w.heap.size + 1 + 1) (xorF x y) rfl (hr2.set _)) rfl ⟨rfl, below_setRow hb _ _ (by omega)⟩
end Go.Proofs.Qxb6605413aMods
