/- THE PLAIN MATHEMATICS OF double: a block of sixteen bytes read as a number of 128 bits; doubling in GF(2^128). -/
import Derived.Test.Qxb6605413aModsPlain
namespace Go.Proofs.Qxb6605413aMods

/-- double, byte by byte. -/
def dblF (x : Nat → Nat) (i : Nat) : Nat := if i < 15 then (x i * 2 % 256) ||| (x (i + 1) / 128) else (x 15 * 2 % 256) ^^^ (x 0 / 128 * 135)
def xorF (x y : Nat → Nat) (i : Nat) : Nat := x i ^^^ y i
/-- k times doubled. -/
def dK (x : Nat → Nat) : Nat → (Nat → Nat)
  | 0 => x
  | k + 1 => dblF (dK x k)

namespace Plain
theorem byte_xor_lt {a b : Nat} (ha : a < 256) (hb : b < 256) : a ^^^ b < 256 := Nat.xor_lt_two_pow (n := 8) ha hb
theorem dblF_lt (x : Nat → Nat) (hx : ∀ i, x i < 256) (i : Nat) : dblF x i < 256 := by
  unfold dblF
  have h1 := hx (i + 1)
  have h0 := hx 0
  split
  · exact Nat.or_lt_two_pow (n := 8) (Nat.mod_lt _ (by decide)) (by omega)
  · exact byte_xor_lt (Nat.mod_lt _ (by decide)) (by omega)
theorem xorF_lt (x y : Nat → Nat) (hx : ∀ i, x i < 256) (hy : ∀ i, y i < 256) (i : Nat) : xorF x y i < 256 := byte_xor_lt (hx i) (hy i)
theorem dK_lt (x : Nat → Nat) (hx : ∀ i, x i < 256) (k : Nat) : ∀ i, dK x k i < 256 := by
  induction k with
  | zero => exact hx
  | succ k ih => exact dblF_lt _ ih

/-- The first k bytes as a number, the first byte the most significant. -/
def num (x : Nat → Nat) : Nat → Nat
  | 0 => 0
  | k + 1 => num x k * 256 + x k

theorem num_inj (x y : Nat → Nat) (hx : ∀ i, x i < 256) (hy : ∀ i, y i < 256) (k : Nat) (h : num x k = num y k) : ∀ i, i < k → x i = y i := by
  induction k with
  | zero => intro i hi; omega
  | succ k ih =>
    have hxk := hx k
    have hyk := hy k
    have h' : num x k * 256 + x k = num y k * 256 + y k := h
    intro i hi
    by_cases e : i = k
    · subst e; omega
    · exact ih (by omega) i (by omega)

theorem low_xor (A a B b : Nat) (ha : a < 256) (hb : b < 256) : (A * 256 + a) ^^^ (B * 256 + b) = (A ^^^ B) * 256 + (a ^^^ b) := by
  have hl := byte_xor_lt ha hb
  have h1 : ((A * 256 + a) ^^^ (B * 256 + b)) / 2 ^ 8 = A ^^^ B := by
    rw [Nat.xor_div_two_pow]
    congr 1 <;> omega
  have h2 : ((A * 256 + a) ^^^ (B * 256 + b)) % 2 ^ 8 = a ^^^ b := by
    rw [Nat.xor_mod_two_pow]
    congr 1 <;> omega
  omega

theorem num_xor (x y : Nat → Nat) (hx : ∀ i, x i < 256) (hy : ∀ i, y i < 256) (k : Nat) : num (xorF x y) k = num x k ^^^ num y k := by
  induction k with
  | zero => exact (Nat.xor_self 0).symm
  | succ k ih =>
    show num (xorF x y) k * 256 + (x k ^^^ y k) = (num x k * 256 + x k) ^^^ (num y k * 256 + y k)
    rw [low_xor _ _ _ _ (hx k) (hy k), ih]

theorem num_lt (x : Nat → Nat) (hx : ∀ i, x i < 256) (k : Nat) : num x k < 256 ^ k := by
  induction k with
  | zero => exact (by decide : 0 < 256 ^ 0)
  | succ k ih =>
    show num x k * 256 + x k < 256 ^ (k + 1)
    have := hx k
    rw [Nat.pow_succ]
    omega

/-- The top bit of the first byte is the top bit of the number. -/
theorem num_top (x : Nat → Nat) (hx : ∀ i, x i < 256) (k : Nat) : num x (k + 1) / (256 ^ k * 128) = x 0 / 128 := by
  induction k with
  | zero => show (0 * 256 + x 0) / (1 * 128) = x 0 / 128; rw [Nat.zero_mul, Nat.zero_add, Nat.one_mul]
  | succ k ih =>
    have h1 := hx (k + 1)
    have e : 256 ^ (k + 1) * 128 = 256 * (256 ^ k * 128) := by rw [Nat.pow_succ]; omega
    show (num x (k + 1) * 256 + x (k + 1)) / (256 ^ (k + 1) * 128) = x 0 / 128
    rw [e, ← Nat.div_div_eq_div_mul, show (num x (k + 1) * 256 + x (k + 1)) / 256 = num x (k + 1) by omega, ih]

theorem or_low (a b : Nat) (hb : b < 256) : (a * 2 % 256) ||| (b / 128) = a * 2 % 256 + b / 128 := by
  have h : a * 2 % 256 = 2 ^ 1 * (a % 128) := by omega
  rw [h, ← Nat.two_pow_add_eq_or_of_lt (by omega)]

/-- Behind k bytes: the number doubled, the next byte's top bit let in, the top bit let go. -/
theorem num_dbl (x : Nat → Nat) (hx : ∀ i, x i < 256) (k : Nat) (hk : k ≤ 15) : num (dblF x) k = (num x k * 2 + x k / 128) % 256 ^ k := by
  induction k with
  | zero => show 0 = _ % 1; omega
  | succ k ih =>
    have h1 := hx k
    have h2 := hx (k + 1)
    show num (dblF x) k * 256 + dblF x k = ((num x k * 256 + x k) * 2 + x (k + 1) / 128) % 256 ^ (k + 1)
    rw [ih (by omega)]
    have hd : dblF x k = x k * 2 % 256 + x (k + 1) / 128 := by
      unfold dblF
      rw [if_pos (by omega), or_low _ _ h2]
    rw [hd]
    have e : (num x k * 256 + x k) * 2 + x (k + 1) / 128 = 256 * (num x k * 2 + x k / 128) + (x k * 2 % 256 + x (k + 1) / 128) := by omega
    have hm : (256 * (num x k * 2 + x k / 128) + (x k * 2 % 256 + x (k + 1) / 128)) % (256 * 256 ^ k) = 256 * ((num x k * 2 + x k / 128) % 256 ^ k) + (x k * 2 % 256 + x (k + 1) / 128) := by
      generalize num x k * 2 + x k / 128 = A
      have hr : x k * 2 % 256 + x (k + 1) / 128 < 256 := by omega
      generalize x k * 2 % 256 + x (k + 1) / 128 = r at hr
      rw [Nat.mod_mul, show (256 * A + r) % 256 = r by omega, show (256 * A + r) / 256 = A by omega]
      omega
    rw [e, Nat.pow_succ, Nat.mul_comm (256 ^ k) 256, hm]
    omega

/-- Doubling of a number of 128 bits. -/
def D (n : Nat) : Nat := (n <<< 1 % 2 ^ 128) ^^^ pickB (n.testBit 127) 135
def DK (n : Nat) : Nat → Nat
  | 0 => n
  | k + 1 => D (DK n k)

theorem num_D (x : Nat → Nat) (hx : ∀ i, x i < 256) : num (dblF x) 16 = D (num x 16) := by
  have h0 := hx 0
  have h15 := hx 15
  have hlt : num x 16 < 256 ^ 16 := num_lt x hx 16
  have htop : num x 16 / (256 ^ 15 * 128) = x 0 / 128 := num_top x hx 15
  have hd : num (dblF x) 15 = (num x 15 * 2 + x 15 / 128) % 256 ^ 15 := num_dbl x hx 15 (Nat.le_refl _)
  have e16 : num x 16 = num x 15 * 256 + x 15 := rfl
  have hbit : pickB ((num x 16).testBit 127) 135 = x 0 / 128 * 135 := by
    rw [testBit_mod, show (2 : Nat) ^ 127 = 256 ^ 15 * 128 by decide, htop]
    have : x 0 / 128 = 0 ∨ x 0 / 128 = 1 := by omega
    rcases this with h | h <;> simp [h, pickB]
  show num (dblF x) 15 * 256 + dblF x 15 = D (num x 16)
  unfold D
  rw [hbit, hd, Nat.shiftLeft_eq]
  have hl : num x 16 * 2 ^ 1 % 2 ^ 128 = ((num x 15 * 2 + x 15 / 128) % 256 ^ 15) * 256 + x 15 * 2 % 256 := by
    rw [e16]
    have e : (num x 15 * 256 + x 15) * 2 ^ 1 = 256 * (num x 15 * 2 + x 15 / 128) + x 15 * 2 % 256 := by omega
    rw [e, show (2 : Nat) ^ 128 = 256 * 256 ^ 15 by decide]
    generalize num x 15 * 2 + x 15 / 128 = A
    have hr : x 15 * 2 % 256 < 256 := by omega
    generalize x 15 * 2 % 256 = r at hr
    rw [Nat.mod_mul, show (256 * A + r) % 256 = r by omega, show (256 * A + r) / 256 = A by omega]
    omega
  rw [hl]
  have hx2 := low_xor ((num x 15 * 2 + x 15 / 128) % 256 ^ 15) (x 15 * 2 % 256) 0 (x 0 / 128 * 135) (by omega) (by omega)
  rw [Nat.zero_mul, Nat.zero_add, Nat.xor_zero] at hx2
  rw [hx2]
  unfold dblF
  rw [if_neg (by omega)]

theorem D_xor (a b : Nat) : D (a ^^^ b) = D a ^^^ D b := by
  unfold D
  rw [Nat.testBit_xor, pickB_xor, Nat.shiftLeft_xor_distrib, Nat.xor_mod_two_pow]
  ac_rfl
theorem DK_xor (a b k : Nat) : DK (a ^^^ b) k = DK a k ^^^ DK b k := by
  induction k with
  | zero => rfl
  | succ k ih => show D (DK (a ^^^ b) k) = D (DK a k) ^^^ D (DK b k); rw [ih, D_xor]
theorem DK_zero (k : Nat) : DK 0 k = 0 := by
  have := DK_xor 0 0 k
  rw [Nat.xor_self, Nat.xor_self] at this
  exact this

theorem DK_basis : ∀ i, i < 128 → DK (2 ^ i) 128 = (2 ^ i ^^^ DK (2 ^ i) 1) ^^^ (DK (2 ^ i) 2 ^^^ DK (2 ^ i) 7) := by decide +kernel

/-- x^128 = x^7 + x^2 + x + 1 in the field. -/
theorem DK_128 (n : Nat) (h : n < 2 ^ 128) : DK n 128 = (n ^^^ DK n 1) ^^^ (DK n 2 ^^^ DK n 7) := by
  refine basis_ind (fun n => DK n 128 = (n ^^^ DK n 1) ^^^ (DK n 2 ^^^ DK n 7)) 128 ?_ ?_ ?_ n h
  · show DK 0 128 = (0 ^^^ DK 0 1) ^^^ (DK 0 2 ^^^ DK 0 7)
    simp only [DK_zero, Nat.xor_self]
  · intro u v hu hv
    show DK (u ^^^ v) 128 = ((u ^^^ v) ^^^ DK (u ^^^ v) 1) ^^^ (DK (u ^^^ v) 2 ^^^ DK (u ^^^ v) 7)
    rw [DK_xor, DK_xor, DK_xor, DK_xor, hu, hv]
    ac_rfl
  · exact DK_basis

theorem num_dK (x : Nat → Nat) (hx : ∀ i, x i < 256) (k : Nat) : num (dK x k) 16 = DK (num x 16) k := by
  induction k with
  | zero => rfl
  | succ k ih => show num (dblF (dK x k)) 16 = D (DK (num x 16) k); rw [num_D _ (dK_lt x hx k), ih]

/-- The law of FnDoubleTimes128IsProductBy0x87, byte by byte. -/
theorem dK_128 (x : Nat → Nat) (hx : ∀ i, x i < 256) : ∀ i, i < 16 → dK x 128 i = xorF (xorF x (dK x 1)) (xorF (dK x 2) (dK x 7)) i := by
  have b1 := xorF_lt x (dK x 1) hx (dK_lt x hx 1)
  have b2 := xorF_lt (dK x 2) (dK x 7) (dK_lt x hx 2) (dK_lt x hx 7)
  refine num_inj _ _ (dK_lt x hx 128) (xorF_lt _ _ b1 b2) 16 ?_
  have hl : num x 16 < 2 ^ 128 := by
    have := num_lt x hx 16
    rw [show (2 : Nat) ^ 128 = 256 ^ 16 by decide]
    exact this
  rw [num_xor _ _ b1 b2, num_xor _ _ hx (dK_lt x hx 1), num_xor _ _ (dK_lt x hx 2) (dK_lt x hx 7), num_dK x hx 128, num_dK x hx 1, num_dK x hx 2, num_dK x hx 7]
  exact DK_128 _ hl
end Plain
end Go.Proofs.Qxb6605413aMods
