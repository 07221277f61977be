/- THE PLAIN MATHEMATICS OF zzGF8Mul, zzMulModel and inverse. No Go in sight. -/
import Derived.Test.Qxb6605413aModsPlain
namespace Go.Proofs.Qxb6605413aMods.Plain

/-! ### The product of two bytes by schoolbook product and long division -/
def q1 (a b : Nat) : Nat → Nat
  | 0 => 0
  | k + 1 => q1 a b k ^^^ pickB (b.testBit k) (a <<< k)
def q2 (p : Nat) : Nat → Nat
  | 0 => p
  | t + 1 => q2 p t ^^^ pickB ((q2 p t).testBit (14 - t)) (283 <<< (6 - t))
def g8 (a b : Nat) : Nat := q2 (q1 a b 8) 7 % 256

theorem pick_lt (c : Bool) (x n : Nat) (h : x < n) (h0 : 0 < n) : pickB c x < n := by
  unfold pickB
  split
  · exact h
  · exact h0
theorem shl_lt (a k : Nat) (ha : a < 256) (hk : k < 8) : a <<< k < 65536 := by
  rw [Nat.shiftLeft_eq]
  have h1 : 2 ^ k ≤ 2 ^ 7 := Nat.pow_le_pow_right (by omega) (by omega)
  have h2 : a * 2 ^ k ≤ 255 * 2 ^ 7 := Nat.mul_le_mul (by omega) h1
  omega
theorem shr_lt (t : Nat) : 283 <<< (6 - t) < 65536 := by
  rw [Nat.shiftLeft_eq]
  have h1 : 2 ^ (6 - t) ≤ 2 ^ 6 := Nat.pow_le_pow_right (by omega) (by omega)
  omega
theorem q1_lt (a b k : Nat) (ha : a < 256) (hk : k ≤ 8) : q1 a b k < 65536 := by
  induction k with
  | zero => exact (by decide : 0 < 65536)
  | succ k ih => exact Nat.xor_lt_two_pow (n := 16) (ih (by omega)) (pick_lt _ _ _ (shl_lt a k ha (by omega)) (by decide))
theorem q2_lt (p t : Nat) (hp : p < 65536) : q2 p t < 65536 := by
  induction t with
  | zero => exact hp
  | succ t ih => exact Nat.xor_lt_two_pow (n := 16) ih (pick_lt _ _ _ (shr_lt t) (by decide))
theorem g8_lt (a b : Nat) : g8 a b < 256 := Nat.mod_lt _ (by decide)

theorem q1_xor_left (x y b k : Nat) : q1 (x ^^^ y) b k = q1 x b k ^^^ q1 y b k := by
  induction k with
  | zero => exact (Nat.xor_self 0).symm
  | succ k ih =>
    show q1 (x ^^^ y) b k ^^^ pickB (b.testBit k) ((x ^^^ y) <<< k) = (q1 x b k ^^^ pickB (b.testBit k) (x <<< k)) ^^^ (q1 y b k ^^^ pickB (b.testBit k) (y <<< k))
    rw [ih, Nat.shiftLeft_xor_distrib, pickB_xor_right]
    ac_rfl
theorem q1_xor_right (a x y k : Nat) : q1 a (x ^^^ y) k = q1 a x k ^^^ q1 a y k := by
  induction k with
  | zero => exact (Nat.xor_self 0).symm
  | succ k ih =>
    show q1 a (x ^^^ y) k ^^^ pickB ((x ^^^ y).testBit k) (a <<< k) = (q1 a x k ^^^ pickB (x.testBit k) (a <<< k)) ^^^ (q1 a y k ^^^ pickB (y.testBit k) (a <<< k))
    rw [ih, Nat.testBit_xor, pickB_xor]
    ac_rfl
theorem q2_xor (x y t : Nat) : q2 (x ^^^ y) t = q2 x t ^^^ q2 y t := by
  induction t with
  | zero => rfl
  | succ t ih =>
    show q2 (x ^^^ y) t ^^^ pickB ((q2 (x ^^^ y) t).testBit (14 - t)) (283 <<< (6 - t)) = (q2 x t ^^^ pickB ((q2 x t).testBit (14 - t)) (283 <<< (6 - t))) ^^^ (q2 y t ^^^ pickB ((q2 y t).testBit (14 - t)) (283 <<< (6 - t)))
    rw [ih, Nat.testBit_xor, pickB_xor]
    ac_rfl
theorem g8_xor_left (x y b : Nat) : g8 (x ^^^ y) b = g8 x b ^^^ g8 y b := by
  unfold g8
  rw [q1_xor_left, q2_xor, show (256 : Nat) = 2 ^ 8 from rfl, Nat.xor_mod_two_pow]
theorem g8_xor_right (a x y : Nat) : g8 a (x ^^^ y) = g8 a x ^^^ g8 a y := by
  unfold g8
  rw [q1_xor_right, q2_xor, show (256 : Nat) = 2 ^ 8 from rfl, Nat.xor_mod_two_pow]
theorem g8_zero_left (b : Nat) : g8 0 b = 0 := by
  have := g8_xor_left 0 0 b
  rw [Nat.xor_self, Nat.xor_self] at this
  exact this
theorem g8_zero_right (a : Nat) : g8 a 0 = 0 := by
  have := g8_xor_right a 0 0
  rw [Nat.xor_self, Nat.xor_self] at this
  exact this
theorem g8_basis : ∀ i, i < 8 → ∀ j, j < 8 → g8 (2 ^ i) (2 ^ j) = gm (2 ^ i) (2 ^ j) := by decide +kernel
theorem g8_gm (x y : Nat) (hx : x < 2 ^ 8) (hy : y < 2 ^ 8) : g8 x y = gm x y := by
  refine basis_ind (fun x => g8 x y = gm x y) 8 ?_ ?_ ?_ x hx
  · show g8 0 y = gm 0 y; rw [g8_zero_left, gm_zero_left]
  · intro u v hu hv; show g8 (u ^^^ v) y = gm (u ^^^ v) y; rw [g8_xor_left, gm_xor_left, hu, hv]
  · intro i hi
    refine basis_ind (fun y => g8 (2 ^ i) y = gm (2 ^ i) y) 8 ?_ ?_ ?_ y hy
    · show g8 (2 ^ i) 0 = gm (2 ^ i) 0; rw [g8_zero_right, gm_zero_right]
    · intro u v hu hv; show g8 (2 ^ i) (u ^^^ v) = gm (2 ^ i) (u ^^^ v); rw [g8_xor_right, gm_xor_right, hu, hv]
    · intro j hj; exact g8_basis i hi j hj

/-! ### A word laid together lane by lane -/
def layK (f : Nat → Nat) : Nat → Nat
  | 0 => 0
  | i + 1 => layK f i ||| f i * 2 ^ (8 * i)
theorem lane_put (k i g : Nat) (hk : k < 8) (hi : i < 8) (hg : g < 256) : lane k (g * 2 ^ (8 * i)) = if k = i then g else 0 := by
  unfold lane
  by_cases e : k = i
  · subst e
    rw [if_pos rfl]
    rcases eight hk with rfl | rfl | rfl | rfl | rfl | rfl | rfl | rfl <;> simp only [Nat.reduceMul, Nat.reducePow] <;> omega
  · rw [if_neg e]
    rcases eight hk with rfl | rfl | rfl | rfl | rfl | rfl | rfl | rfl <;> rcases eight hi with rfl | rfl | rfl | rfl | rfl | rfl | rfl | rfl <;> first | exact absurd rfl e | (simp only [Nat.reduceMul, Nat.reducePow]; omega)
theorem put_lt (i g : Nat) (hi : i < 8) (hg : g < 256) : g * 2 ^ (8 * i) < 18446744073709551616 := by
  rcases eight hi with rfl | rfl | rfl | rfl | rfl | rfl | rfl | rfl <;> simp only [Nat.reduceMul, Nat.reducePow] <;> omega
theorem layK_lt (f : Nat → Nat) (hf : ∀ i, f i < 256) (i : Nat) (hi : i ≤ 8) : layK f i < 18446744073709551616 := by
  induction i with
  | zero => exact (by decide : 0 < 18446744073709551616)
  | succ i ih => exact Nat.or_lt_two_pow (n := 64) (ih (by omega)) (put_lt i (f i) (by omega) (hf i))
theorem lane_layK (f : Nat → Nat) (hf : ∀ i, f i < 256) (k i : Nat) (hk : k < 8) (hi : i ≤ 8) : lane k (layK f i) = if k < i then f k else 0 := by
  induction i with
  | zero => show lane k 0 = _; simp [lane]
  | succ i ih =>
    show lane k (layK f i ||| f i * 2 ^ (8 * i)) = _
    rw [lane_or, ih (by omega), lane_put k i (f i) hk (by omega) (hf i)]
    by_cases e : k = i
    · subst e; simp
    · by_cases h : k < i
      · simp [e, h, show k < i + 1 by omega]
      · simp [e, h, show ¬ k < i + 1 by omega]

/-- mul is the bytewise product. -/
theorem model_mul (a b : Nat) : layK (fun i => g8 (lane i a) (lane i b)) 8 = mulN a b := by
  have hf : ∀ i, g8 (lane i a) (lane i b) < 256 := fun i => g8_lt _ _
  refine eq_of_lanes _ _ (layK_lt _ hf 8 (Nat.le_refl _)) (mulN_lt a b) fun k hk => ?_
  rw [lane_layK _ hf k 8 hk (Nat.le_refl _), if_pos hk, lane_mulN k a b hk]
  exact g8_gm _ _ (lane_lt _ _) (lane_lt _ _)

/-! ### inverse: the power 254 -/
def inv2 (w : Nat) : Nat := mulN w w
def inv3 (w : Nat) : Nat := mulN (inv2 w) w
def inv6 (w : Nat) : Nat := mulN (inv3 w) (inv3 w)
def inv12 (w : Nat) : Nat := mulN (inv6 w) (inv6 w)
def inv15 (w : Nat) : Nat := mulN (inv12 w) (inv3 w)
def inv30 (w : Nat) : Nat := mulN (inv15 w) (inv15 w)
def inv60 (w : Nat) : Nat := mulN (inv30 w) (inv30 w)
def inv120 (w : Nat) : Nat := mulN (inv60 w) (inv60 w)
def inv240 (w : Nat) : Nat := mulN (inv120 w) (inv120 w)
def inv14 (w : Nat) : Nat := mulN (inv12 w) (inv2 w)
def invN (w : Nat) : Nat := mulN (inv240 w) (inv14 w)
theorem invN_lt (w : Nat) : invN w < 18446744073709551616 := mulN_lt _ _

/-- The same on a byte. -/
def ginvFrom (x2 x3 x12 : Nat) : Nat :=
  let x15 := gm x12 x3
  let x30 := gm x15 x15
  let x60 := gm x30 x30
  let x120 := gm x60 x60
  let x240 := gm x120 x120
  gm x240 (gm x12 x2)
def ginv (x : Nat) : Nat := ginvFrom (gm x x) (gm (gm x x) x) (gm (gm (gm (gm x x) x) (gm (gm x x) x)) (gm (gm (gm x x) x) (gm (gm x x) x)))
theorem lane_inv (k w : Nat) (hk : k < 8) : lane k (invN w) = ginv (lane k w) := by
  unfold invN inv240 inv120 inv60 inv30 inv15 inv14 inv12 inv6 inv3 inv2 ginv ginvFrom
  simp only [lane_mulN k _ _ hk]

theorem ginv_cancels : ∀ x, x < 256 → gm x (ginv x) = if x = 0 then 0 else 1 := by decide +kernel
theorem ginv_back : ∀ x, x < 256 → ginv (ginv x) = x := by decide +kernel
def one (x : Nat) : Nat := if x = 0 then 0 else 1
theorem one_lt (x : Nat) : one x < 256 := by unfold one; split <;> omega
theorem inv_back (w : Nat) (hw : w < 18446744073709551616) : invN (invN w) = w := by
  refine eq_of_lanes _ _ (invN_lt _) hw fun k hk => ?_
  rw [lane_inv k _ hk, lane_inv k w hk]
  exact ginv_back _ (lane_lt _ _)
theorem mul_inv (w : Nat) : mulN w (invN w) = layK (fun i => one (lane i w)) 8 := by
  have hf : ∀ i, one (lane i w) < 256 := fun i => one_lt _
  refine eq_of_lanes _ _ (mulN_lt _ _) (layK_lt _ hf 8 (Nat.le_refl _)) fun k hk => ?_
  rw [lane_layK _ hf k 8 hk (Nat.le_refl _), if_pos hk, lane_mulN k w _ hk, lane_inv k w hk]
  exact ginv_cancels _ (lane_lt _ _)
end Go.Proofs.Qxb6605413aMods.Plain
