/- THE PLAIN MATHEMATICS OF mul: eight bytes in a word of 64 bits, each in GF(256). No Go in sight. -/
namespace Go.Proofs.Qxb6605413aMods.Plain

/-! ### A word as eight lanes of eight bits -/
def lane (k x : Nat) : Nat := x / 2 ^ (8 * k) % 256

theorem lane_lt (k x : Nat) : lane k x < 256 := Nat.mod_lt _ (by decide)

theorem lane_xor (k x y : Nat) : lane k (x ^^^ y) = lane k x ^^^ lane k y := by
  unfold lane
  rw [Nat.xor_div_two_pow, show (256 : Nat) = 2 ^ 8 from rfl, Nat.xor_mod_two_pow]

theorem lane_and (k x y : Nat) : lane k (x &&& y) = lane k x &&& lane k y := by
  unfold lane
  rw [Nat.and_div_two_pow, show (256 : Nat) = 2 ^ 8 from rfl, Nat.and_mod_two_pow]

theorem lane_or (k x y : Nat) : lane k (x ||| y) = lane k x ||| lane k y := by
  unfold lane
  rw [Nat.or_div_two_pow, show (256 : Nat) = 2 ^ 8 from rfl, Nat.or_mod_two_pow]

theorem eight {k : Nat} (h : k < 8) : k = 0 ∨ k = 1 ∨ k = 2 ∨ k = 3 ∨ k = 4 ∨ k = 5 ∨ k = 6 ∨ k = 7 := by omega

theorem lanes_sum (x : Nat) (h : x < 18446744073709551616) :
    x = lane 0 x + 256 * lane 1 x + 65536 * lane 2 x + 16777216 * lane 3 x + 4294967296 * lane 4 x + 1099511627776 * lane 5 x + 281474976710656 * lane 6 x + 72057594037927936 * lane 7 x := by
  unfold lane
  simp only [Nat.reduceMul, Nat.reducePow]
  omega

theorem lanes_of_sum (t0 t1 t2 t3 t4 t5 t6 t7 : Nat) (h0 : t0 < 256) (h1 : t1 < 256) (h2 : t2 < 256) (h3 : t3 < 256) (h4 : t4 < 256) (h5 : t5 < 256) (h6 : t6 < 256) (h7 : t7 < 256)
    (y : Nat) (hy : y = t0 + 256 * t1 + 65536 * t2 + 16777216 * t3 + 4294967296 * t4 + 1099511627776 * t5 + 281474976710656 * t6 + 72057594037927936 * t7) :
    y < 18446744073709551616 ∧ lane 0 y = t0 ∧ lane 1 y = t1 ∧ lane 2 y = t2 ∧ lane 3 y = t3 ∧ lane 4 y = t4 ∧ lane 5 y = t5 ∧ lane 6 y = t6 ∧ lane 7 y = t7 := by
  unfold lane
  simp only [Nat.reduceMul, Nat.reducePow]
  refine ⟨?_, ?_, ?_, ?_, ?_, ?_, ?_, ?_, ?_⟩ <;> omega

theorem eq_of_lanes (x y : Nat) (hx : x < 18446744073709551616) (hy : y < 18446744073709551616) (h : ∀ k, k < 8 → lane k x = lane k y) : x = y := by
  rw [lanes_sum x hx, lanes_sum y hy]
  rw [h 0 (by decide), h 1 (by decide), h 2 (by decide), h 3 (by decide), h 4 (by decide), h 5 (by decide), h 6 (by decide), h 7 (by decide)]

/-- No lane runs over: a product by a constant is taken lane by lane. -/
theorem lane_mul (z c : Nat) (hz : z < 18446744073709551616) (hl : ∀ k, k < 8 → lane k z * c < 256) (k : Nat) (hk : k < 8) :
    lane k (z * c % 18446744073709551616) = lane k z * c := by
  have hs := lanes_sum z hz
  have e : z * c = lane 0 z * c + 256 * (lane 1 z * c) + 65536 * (lane 2 z * c) + 16777216 * (lane 3 z * c) + 4294967296 * (lane 4 z * c) + 1099511627776 * (lane 5 z * c) + 281474976710656 * (lane 6 z * c) + 72057594037927936 * (lane 7 z * c) := by
    conv => lhs; rw [hs]
    simp only [Nat.add_mul, Nat.mul_assoc]
  obtain ⟨hlt, e0, e1, e2, e3, e4, e5, e6, e7⟩ := lanes_of_sum _ _ _ _ _ _ _ _ (hl 0 (by decide)) (hl 1 (by decide)) (hl 2 (by decide)) (hl 3 (by decide)) (hl 4 (by decide)) (hl 5 (by decide)) (hl 6 (by decide)) (hl 7 (by decide)) (z * c) e
  rw [Nat.mod_eq_of_lt hlt]
  rcases eight hk with rfl | rfl | rfl | rfl | rfl | rfl | rfl | rfl
  · exact e0
  · exact e1
  · exact e2
  · exact e3
  · exact e4
  · exact e5
  · exact e6
  · exact e7

theorem lane_const (k : Nat) (hk : k < 8) : lane k 9187201950435737471 = 127 ∧ lane k 72340172838076673 = 1 := by
  rcases eight hk with rfl | rfl | rfl | rfl | rfl | rfl | rfl | rfl <;> decide

/-- A lane of a word that has been moved to the right by fewer than eight. -/
theorem lane_bit (k i b : Nat) (hi : i < 8) : lane k (b / 2 ^ i) % 2 = lane k b / 2 ^ i % 2 := by
  unfold lane
  have e : b / 2 ^ i / 2 ^ (8 * k) = b / 2 ^ (8 * k) / 2 ^ i := by
    rw [Nat.div_div_eq_div_mul, Nat.div_div_eq_div_mul, Nat.mul_comm]
  rw [e]
  generalize b / 2 ^ (8 * k) = y
  rcases eight hi with rfl | rfl | rfl | rfl | rfl | rfl | rfl | rfl <;> simp only [Nat.reducePow] <;> omega

/-! ### The word functions -/
def xts (a : Nat) : Nat := ((a &&& 9187201950435737471) * 2 % 18446744073709551616) ^^^ ((a / 128 &&& 72340172838076673) * 27 % 18446744073709551616)
def aK (a : Nat) : Nat → Nat
  | 0 => a
  | k + 1 => xts (aK a k)
def pK (a b : Nat) : Nat → Nat
  | 0 => 0
  | k + 1 => pK a b k ^^^ (aK a k &&& ((b / 2 ^ k &&& 72340172838076673) * 255 % 18446744073709551616))
def mulN (a b : Nat) : Nat := pK a b 8

theorem xor_lt {x y : Nat} (hx : x < 18446744073709551616) (hy : y < 18446744073709551616) : x ^^^ y < 18446744073709551616 :=
  Nat.xor_lt_two_pow (n := 64) hx hy
theorem and_lt {x y : Nat} (hy : y < 18446744073709551616) : x &&& y < 18446744073709551616 :=
  Nat.and_lt_two_pow (n := 64) x hy
theorem xts_lt (a : Nat) : xts a < 18446744073709551616 :=
  xor_lt (Nat.mod_lt _ (by decide)) (Nat.mod_lt _ (by decide))
theorem aK_lt (a : Nat) (h : a < 18446744073709551616) (k : Nat) : aK a k < 18446744073709551616 := by
  cases k with
  | zero => exact h
  | succ k => exact xts_lt _
theorem pK_lt (a b k : Nat) : pK a b k < 18446744073709551616 := by
  induction k with
  | zero => exact (by decide : 0 < 18446744073709551616)
  | succ k ih => exact xor_lt ih (and_lt (Nat.mod_lt _ (by decide)))
theorem mulN_lt (a b : Nat) : mulN a b < 18446744073709551616 := pK_lt a b 8

/-! ### The byte functions -/
def pickB (c : Bool) (x : Nat) : Nat := if c then x else 0
theorem pickB_xor (c d : Bool) (x : Nat) : pickB (c ^^ d) x = pickB c x ^^^ pickB d x := by
  cases c <;> cases d <;> simp [pickB]
theorem pickB_xor_right (c : Bool) (x y : Nat) : pickB c (x ^^^ y) = pickB c x ^^^ pickB c y := by
  cases c <;> simp [pickB]
def xt (x : Nat) : Nat := ((x &&& 127) <<< 1) ^^^ pickB (x.testBit 7) 27
def ga (x : Nat) : Nat → Nat
  | 0 => x
  | k + 1 => xt (ga x k)
def gp (x y : Nat) : Nat → Nat
  | 0 => 0
  | k + 1 => gp x y k ^^^ pickB (y.testBit k) (ga x k)
def gm (x y : Nat) : Nat := gp x y 8

theorem testBit_mod (x i : Nat) : x.testBit i = decide (x / 2 ^ i % 2 = 1) := by
  rw [Nat.testBit_eq_decide_div_mod_eq]

theorem lane_xts (k a : Nat) (hk : k < 8) : lane k (xts a) = xt (lane k a) := by
  have hc := lane_const k hk
  have l1 : lane k ((a &&& 9187201950435737471) * 2 % 18446744073709551616) = (lane k a &&& 127) <<< 1 := by
    rw [lane_mul _ 2 (and_lt (by decide)) ?_ k hk, lane_and, hc.1, Nat.shiftLeft_eq]
    intro j hj
    rw [lane_and, (lane_const j hj).1]
    have := Nat.and_lt_two_pow (n := 7) (lane j a) (show 127 < 2 ^ 7 by decide)
    omega
  have l2 : lane k ((a / 128 &&& 72340172838076673) * 27 % 18446744073709551616) = pickB ((lane k a).testBit 7) 27 := by
    rw [lane_mul _ 27 (and_lt (by decide)) ?_ k hk, lane_and, hc.2, Nat.and_one_is_mod, show (128 : Nat) = 2 ^ 7 from rfl, lane_bit k 7 a (by decide), testBit_mod]
    · have : lane k a / 2 ^ 7 % 2 = 0 ∨ lane k a / 2 ^ 7 % 2 = 1 := by omega
      rcases this with h | h <;> simp [h, pickB]
    · intro j hj
      rw [lane_and, (lane_const j hj).2, Nat.and_one_is_mod]
      omega
  unfold xts xt
  rw [lane_xor, l1, l2]

theorem lane_aK (k a i : Nat) (hk : k < 8) : lane k (aK a i) = ga (lane k a) i := by
  induction i with
  | zero => rfl
  | succ i ih => show lane k (xts (aK a i)) = xt (ga (lane k a) i); rw [lane_xts k _ hk, ih]

theorem and_255 (x : Nat) (h : x < 256) : x &&& 255 = x := by
  rw [show (255 : Nat) = 2 ^ 8 - 1 from rfl, Nat.and_two_pow_sub_one_eq_mod]
  exact Nat.mod_eq_of_lt h

theorem lane_pK (k a b i : Nat) (hk : k < 8) (hi : i ≤ 8) : lane k (pK a b i) = gp (lane k a) (lane k b) i := by
  induction i with
  | zero => show lane k 0 = 0; simp [lane]
  | succ i ih =>
    show lane k (pK a b i ^^^ (aK a i &&& ((b / 2 ^ i &&& 72340172838076673) * 255 % 18446744073709551616))) = gp (lane k a) (lane k b) i ^^^ pickB ((lane k b).testBit i) (ga (lane k a) i)
    have l2 : lane k ((b / 2 ^ i &&& 72340172838076673) * 255 % 18446744073709551616) = pickB ((lane k b).testBit i) 255 := by
      rw [lane_mul _ 255 (and_lt (by decide)) ?_ k hk, lane_and, (lane_const k hk).2, Nat.and_one_is_mod, lane_bit k i b (by omega), testBit_mod]
      · have : lane k b / 2 ^ i % 2 = 0 ∨ lane k b / 2 ^ i % 2 = 1 := by omega
        rcases this with h | h <;> simp [h, pickB]
      · intro j hj
        rw [lane_and, (lane_const j hj).2, Nat.and_one_is_mod]
        omega
    rw [lane_xor, ih (by omega), lane_and, l2, lane_aK k a i hk]
    have hb : ga (lane k a) i < 256 := by rw [← lane_aK k a i hk]; exact lane_lt _ _
    cases (lane k b).testBit i
    · simp [pickB]
    · simp [pickB, and_255 _ hb]

theorem lane_mulN (k a b : Nat) (hk : k < 8) : lane k (mulN a b) = gm (lane k a) (lane k b) :=
  lane_pK k a b 8 hk (Nat.le_refl _)

/-! ### Bytes are sums of powers of two -/
theorem two_pow_xor (n y : Nat) (h : y < 2 ^ n) : 2 ^ n ^^^ y = 2 ^ n + y := by
  have e := Nat.two_pow_add_eq_or_of_lt h 1
  rw [Nat.mul_one] at e
  rw [e]
  apply Nat.eq_of_testBit_eq
  intro i
  rw [Nat.testBit_xor, Nat.testBit_or, Nat.testBit_two_pow]
  by_cases e : n = i
  · subst e; simp [Nat.testBit_lt_two_pow h]
  · simp [e]

theorem basis_ind (P : Nat → Prop) (n : Nat) (h0 : P 0) (hx : ∀ x y, P x → P y → P (x ^^^ y)) (hb : ∀ i, i < n → P (2 ^ i)) : ∀ x, x < 2 ^ n → P x := by
  induction n with
  | zero => intro x hxn; have : x = 0 := by simpa using hxn
            rw [this]; exact h0
  | succ n ih =>
    intro x hxn
    have ih' := ih (fun i hi => hb i (by omega))
    by_cases hlt : x < 2 ^ n
    · exact ih' x hlt
    · have hy : x - 2 ^ n < 2 ^ n := by rw [Nat.pow_succ] at hxn; omega
      have e : x = 2 ^ n ^^^ (x - 2 ^ n) := by rw [two_pow_xor n _ hy]; omega
      rw [e]
      exact hx _ _ (hb n (by omega)) (ih' _ hy)

/-! ### The byte product is bilinear -/
theorem xt_xor (x y : Nat) : xt (x ^^^ y) = xt x ^^^ xt y := by
  unfold xt
  rw [Nat.testBit_xor, pickB_xor, Nat.and_xor_distrib_right, Nat.shiftLeft_xor_distrib]
  ac_rfl
theorem ga_xor (x y k : Nat) : ga (x ^^^ y) k = ga x k ^^^ ga y k := by
  induction k with
  | zero => rfl
  | succ k ih => show xt (ga (x ^^^ y) k) = xt (ga x k) ^^^ xt (ga y k); rw [ih, xt_xor]
theorem gp_xor_left (x y z k : Nat) : gp (x ^^^ y) z k = gp x z k ^^^ gp y z k := by
  induction k with
  | zero => exact (Nat.xor_self 0).symm
  | succ k ih =>
    show gp (x ^^^ y) z k ^^^ pickB (z.testBit k) (ga (x ^^^ y) k) = (gp x z k ^^^ pickB (z.testBit k) (ga x k)) ^^^ (gp y z k ^^^ pickB (z.testBit k) (ga y k))
    rw [ih, ga_xor, pickB_xor_right]
    ac_rfl
theorem gp_xor_right (x y z k : Nat) : gp x (y ^^^ z) k = gp x y k ^^^ gp x z k := by
  induction k with
  | zero => exact (Nat.xor_self 0).symm
  | succ k ih =>
    show gp x (y ^^^ z) k ^^^ pickB ((y ^^^ z).testBit k) (ga x k) = (gp x y k ^^^ pickB (y.testBit k) (ga x k)) ^^^ (gp x z k ^^^ pickB (z.testBit k) (ga x k))
    rw [ih, Nat.testBit_xor, pickB_xor]
    ac_rfl
theorem gm_xor_left (x y z : Nat) : gm (x ^^^ y) z = gm x z ^^^ gm y z := gp_xor_left x y z 8
theorem gm_xor_right (x y z : Nat) : gm x (y ^^^ z) = gm x y ^^^ gm x z := gp_xor_right x y z 8
theorem gm_zero_left (y : Nat) : gm 0 y = 0 := by
  have := gm_xor_left 0 0 y
  rw [Nat.xor_self, Nat.xor_self] at this
  exact this
theorem gm_zero_right (x : Nat) : gm x 0 = 0 := by
  have := gm_xor_right x 0 0
  rw [Nat.xor_self, Nat.xor_self] at this
  exact this

/-! ### The field laws on bytes: on powers of two by reckoning, then by linearity -/
theorem gm_comm_basis : ∀ i, i < 8 → ∀ j, j < 8 → gm (2 ^ i) (2 ^ j) = gm (2 ^ j) (2 ^ i) := by decide +kernel
theorem gm_assoc_basis : ∀ i, i < 8 → ∀ j, j < 8 → ∀ k, k < 8 → gm (gm (2 ^ i) (2 ^ j)) (2 ^ k) = gm (2 ^ i) (gm (2 ^ j) (2 ^ k)) := by decide +kernel
theorem gm_one_basis : ∀ i, i < 8 → gm (2 ^ i) 1 = 2 ^ i := by decide +kernel

theorem gm_comm (x y : Nat) (hx : x < 2 ^ 8) (hy : y < 2 ^ 8) : gm x y = gm y x := by
  refine basis_ind (fun x => gm x y = gm y x) 8 ?_ ?_ ?_ x hx
  · show gm 0 y = gm y 0; rw [gm_zero_left, gm_zero_right]
  · intro u v hu hv; show gm (u ^^^ v) y = gm y (u ^^^ v); rw [gm_xor_left, gm_xor_right, hu, hv]
  · intro i hi
    refine basis_ind (fun y => gm (2 ^ i) y = gm y (2 ^ i)) 8 ?_ ?_ ?_ y hy
    · show gm (2 ^ i) 0 = gm 0 (2 ^ i); rw [gm_zero_left, gm_zero_right]
    · intro u v hu hv; show gm (2 ^ i) (u ^^^ v) = gm (u ^^^ v) (2 ^ i); rw [gm_xor_left, gm_xor_right, hu, hv]
    · intro j hj; exact gm_comm_basis i hi j hj

theorem gm_assoc (x y z : Nat) (hx : x < 2 ^ 8) (hy : y < 2 ^ 8) (hz : z < 2 ^ 8) : gm (gm x y) z = gm x (gm y z) := by
  refine basis_ind (fun x => gm (gm x y) z = gm x (gm y z)) 8 ?_ ?_ ?_ x hx
  · show gm (gm 0 y) z = gm 0 (gm y z); simp only [gm_zero_left]
  · intro u v hu hv; show gm (gm (u ^^^ v) y) z = gm (u ^^^ v) (gm y z); rw [gm_xor_left, gm_xor_left, gm_xor_left, hu, hv]
  · intro i hi
    refine basis_ind (fun y => gm (gm (2 ^ i) y) z = gm (2 ^ i) (gm y z)) 8 ?_ ?_ ?_ y hy
    · show gm (gm (2 ^ i) 0) z = gm (2 ^ i) (gm 0 z); simp only [gm_zero_left, gm_zero_right]
    · intro u v hu hv; show gm (gm (2 ^ i) (u ^^^ v)) z = gm (2 ^ i) (gm (u ^^^ v) z); rw [gm_xor_right, gm_xor_left, gm_xor_left, gm_xor_right, hu, hv]
    · intro j hj
      refine basis_ind (fun z => gm (gm (2 ^ i) (2 ^ j)) z = gm (2 ^ i) (gm (2 ^ j) z)) 8 ?_ ?_ ?_ z hz
      · show gm (gm (2 ^ i) (2 ^ j)) 0 = gm (2 ^ i) (gm (2 ^ j) 0); simp only [gm_zero_right]
      · intro u v hu hv; show gm (gm (2 ^ i) (2 ^ j)) (u ^^^ v) = gm (2 ^ i) (gm (2 ^ j) (u ^^^ v)); rw [gm_xor_right, gm_xor_right, gm_xor_right, hu, hv]
      · intro k hk; exact gm_assoc_basis i hi j hj k hk

theorem gm_one (x : Nat) (hx : x < 2 ^ 8) : gm x 1 = x := by
  refine basis_ind (fun x => gm x 1 = x) 8 ?_ ?_ ?_ x hx
  · show gm 0 1 = 0; exact gm_zero_left 1
  · intro u v hu hv; show gm (u ^^^ v) 1 = u ^^^ v; rw [gm_xor_left, hu, hv]
  · intro i hi; exact gm_one_basis i hi

/-! ### The field laws on words -/
theorem mulN_comm (a b : Nat) : mulN a b = mulN b a := by
  refine eq_of_lanes _ _ (mulN_lt a b) (mulN_lt b a) fun k hk => ?_
  rw [lane_mulN k a b hk, lane_mulN k b a hk]
  exact gm_comm _ _ (lane_lt _ _) (lane_lt _ _)
theorem mulN_assoc (a b c : Nat) : mulN (mulN a b) c = mulN a (mulN b c) := by
  refine eq_of_lanes _ _ (mulN_lt _ _) (mulN_lt _ _) fun k hk => ?_
  rw [lane_mulN k (mulN a b) c hk, lane_mulN k a b hk, lane_mulN k a (mulN b c) hk, lane_mulN k b c hk]
  exact gm_assoc _ _ _ (lane_lt _ _) (lane_lt _ _) (lane_lt _ _)
theorem mulN_xor (a b c : Nat) : mulN a (b ^^^ c) = mulN a b ^^^ mulN a c := by
  refine eq_of_lanes _ _ (mulN_lt _ _) (xor_lt (mulN_lt _ _) (mulN_lt _ _)) fun k hk => ?_
  rw [lane_xor, lane_mulN k a (b ^^^ c) hk, lane_mulN k a b hk, lane_mulN k a c hk, lane_xor]
  exact gm_xor_right _ _ _
theorem mulN_one (a : Nat) (ha : a < 18446744073709551616) : mulN a 72340172838076673 = a := by
  refine eq_of_lanes _ _ (mulN_lt _ _) ha fun k hk => ?_
  rw [lane_mulN k a _ hk, (lane_const k hk).2]
  exact gm_one _ (lane_lt _ _)
end Go.Proofs.Qxb6605413aMods.Plain
