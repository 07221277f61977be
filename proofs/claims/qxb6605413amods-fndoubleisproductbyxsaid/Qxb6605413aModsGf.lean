/- THE WALK OF zzGF128Mul, its second factor the polynomial x. -/
import Derived.Test.Qxb6605413aModsCoef
import Derived.Deep.Cut
import Derived.Deep.RegionHeld3
namespace Go.Proofs.Qxb6605413aMods
open Go.ChangeShapes Go.WideShapes Go.ChangeAt Go.RowKit
set_option linter.unusedSimpArgs false

/-- The block that stands for the polynomial x. -/
def px (i : Nat) : Nat := if i = 15 then 2 else 0
/-- Behind i rounds of the outer loop. -/
def pO (x : Nat → Nat) (i n : Nat) : Nat := if 1 ≤ n ∧ n ≤ i then coef x (n - 1) else 0
/-- Behind j rounds of the inner loop (the coefficient of x^i is 1). -/
def pI (x : Nat → Nat) (i j n : Nat) : Nat := if n = i + 1 ∧ 2 ≤ j then 1 else pO x i n

/-- The memory of zzGF128Mul: a, b, the result's variable, p. -/
def MemG (w : World) (x p : Nat → Nat) (wr : World) : Prop :=
  row wr w.heap.size x ∧ row wr (w.heap.size + 1) px ∧ row wr (w.heap.size + 1 + 1) (fun _ => 0) ∧ rowq wr (w.heap.size + 1 + 1 + 1) p ∧ Below w.heap.size w wr

/-- In a region that draws its order: a whole block is loaded. -/
theorem yields29 {S : World → Prop} {ops : Array Oper} {o : Oper} {a : Act} (hw : Region.wanted o (yielded ops a.tmps) = true) (x : Operand) (ho : o.op = .load 29 x) (g : Nat) (hx : a.eval x = .pointer (some ⟨g, 0, none⟩))
    (y : Nat → Nat) (hS : ∀ w, S w → row w g y) : YieldsIf Trym.prog ops S o (.agg (bl y)) a :=
  .inl ⟨hw, fun w hw' => by
    obtain ⟨t, hg⟩ := hS w hw'
    unfold execOp
    simp only [ho, hx, Instr.loadAt, Instr.sureAddr, Sem.run_bind, Sem.run_pure, Result.andThen_ok, run_loadVar_row w g t 29 (bl y) (0, 0) _ hg Trym.underlying29 rfl (info29 y)]⟩

theorem wrap_small (n : Int) (h0 : 0 ≤ n) (h1 : n < 256) : IntKind.i64.wrap n = n := by
  simp [IntKind.wrap, IntKind.bits, IntKind.signed]
  omega
theorem MemG.alloc {w wr : World} {x p : Nat → Nat} (h : MemG w x p wr) (o : Obj) : MemG w x p (wr.alloc o) := by
  obtain ⟨h0, h1, h2, h3, h4⟩ := h
  exact ⟨h0.alloc _, h1.alloc _, h2.alloc _, h3.alloc _, h4.alloc h4.size _⟩
theorem MemG.drew {w wr : World} {x p : Nat → Nat} (h : MemG w x p wr) : MemG w x p wr.drew := by
  obtain ⟨h0, h1, h2, h3, h4⟩ := h
  exact ⟨h0, h1, h2, h3, h4.drew⟩
theorem MemG.congr {w wr : World} {x p q : Nat → Nat} (h : MemG w x p wr) (e : ∀ n, n < 256 → p n = q n) : MemG w x q wr := by
  obtain ⟨h0, h1, h2, h3, h4⟩ := h
  exact ⟨h0, h1, h2, h3.congr e, h4⟩
theorem MemG.setCell {w wr : World} {x p : Nat → Nat} (h : MemG w x p wr) (i v : Nat) : MemG w x (fun j => if j = i then v else p j) (wr.setCell ⟨w.heap.size + 1 + 1 + 1, i, none⟩ (.int .u8 v)) := by
  obtain ⟨h0, h1, h2, h3, h4⟩ := h
  refine ⟨h0.setCell_other _ _ ?_, h1.setCell_other _ _ ?_, h2.setCell_other _ _ ?_, h3.setCell i v, h4.setCell ?_ _⟩ <;> show _ <;> simp only <;> omega

theorem coef_bit (x : Nat → Nat) (i : Nat) : coef x i = 0 ∨ coef x i = 1 := by unfold coef; omega
theorem px_lt (i : Nat) : px i < 256 := by unfold px; split <;> omega
theorem coef_px : ∀ j, j < 128 → coef px j = if j = 1 then 1 else 0 := by decide

theorem pO_zero (x : Nat → Nat) (k : Nat) (hc : coef x k = 0) (n : Nat) : pO x k n = pO x (k + 1) n := by
  unfold pO
  by_cases e : n = k + 1
  · subst e; simp [hc]
  · by_cases h : 1 ≤ n ∧ n ≤ k
    · rw [if_pos h, if_pos (by omega)]
    · rw [if_neg h, if_neg (by omega)]
theorem pI_start (x : Nat → Nat) (k n : Nat) : pO x k n = pI x k 0 n := by unfold pI; rw [if_neg (by omega)]
theorem pI_end (x : Nat → Nat) (k : Nat) (hc : coef x k = 1) (n : Nat) : pI x k 128 n = pO x (k + 1) n := by
  unfold pI
  by_cases e : n = k + 1
  · subst e; simp [pO, hc]
  · rw [if_neg (by omega)]
    unfold pO
    by_cases h : 1 ≤ n ∧ n ≤ k
    · rw [if_pos h, if_pos (by omega)]
    · rw [if_neg h, if_neg (by omega)]
theorem pI_step (x : Nat → Nat) (k j : Nat) (hj : j < 128) (n : Nat) : (if n = k + j then pI x k j (k + j) ^^^ coef px j else pI x k j n) = pI x k (j + 1) n := by
  rw [coef_px j hj]
  by_cases e : n = k + j
  · subst e
    rw [if_pos rfl]
    by_cases h1 : j = 1
    · subst h1
      have e0 : pI x k 1 (k + 1) = 0 := by unfold pI pO; rw [if_neg (by omega), if_neg (by omega)]
      rw [e0, if_pos rfl]
      unfold pI
      rw [if_pos ⟨rfl, by omega⟩]
      rfl
    · rw [if_neg h1, Nat.xor_zero]
      unfold pI
      by_cases h2 : k + j = k + 1 ∧ 2 ≤ j
      · omega
      · rw [if_neg h2, if_neg (by omega)]
  · rw [if_neg e]
    unfold pI
    by_cases h2 : n = k + 1 ∧ 2 ≤ j
    · rw [if_pos h2, if_pos (by omega)]
    · rw [if_neg h2]
      by_cases h3 : n = k + 1 ∧ 2 ≤ j + 1
      · omega
      · rw [if_neg h3]
/-- In the loop that divides: at m, and behind the step at 128. -/
def pR (x : Nat → Nat) (n : Nat) : Nat := if n = 128 then 0 else pO x 128 n ^^^ (if n = 0 ∨ n = 1 ∨ n = 2 ∨ n = 7 then coef x 127 else 0)
def pS (x : Nat → Nat) (m n : Nat) : Nat := if 128 ≤ m then pO x 128 n else pR x n
theorem pS_high (x : Nat → Nat) (m : Nat) (h : 129 ≤ m) : pS x m m = 0 := by
  unfold pS pO
  rw [if_pos (by omega), if_neg (by omega)]
theorem pS_128 (x : Nat → Nat) : pS x 128 128 = coef x 127 := by
  unfold pS pO
  rw [if_pos (by omega), if_pos (by omega)]
theorem pS_keep (x : Nat → Nat) (hc : coef x 127 = 0) (n : Nat) : pS x 128 n = pS x 127 n := by
  unfold pS
  rw [if_pos (by omega), if_neg (by omega)]
  unfold pR
  by_cases e : n = 128
  · subst e; rw [if_pos rfl]; unfold pO; rw [if_pos (by omega)]; exact hc
  · rw [if_neg e, hc]; simp
theorem pS_step (x : Nat → Nat) (hc : coef x 127 = 1) (n : Nat) :
    (if n = 0 then pS x 128 0 ^^^ 1 else if n = 1 then pS x 128 1 ^^^ 1 else if n = 2 then pS x 128 2 ^^^ 1 else if n = 7 then pS x 128 7 ^^^ 1 else if n = 128 then 0 else pS x 128 n) = pS x 127 n := by
  have e : ∀ n, pS x 128 n = pO x 128 n := fun n => by unfold pS; rw [if_pos (by omega)]
  rw [show pS x 127 n = pR x n from by unfold pS; rw [if_neg (by omega)]]
  simp only [e]
  unfold pR
  rw [hc]
  by_cases e0 : n = 0
  · subst e0; simp
  by_cases e1 : n = 1
  · subst e1; simp
  by_cases e2 : n = 2
  · subst e2; simp
  by_cases e7 : n = 7
  · subst e7; simp
  simp [e0, e1, e2, e7]
theorem bit_xor {a b : Nat} (ha : a = 0 ∨ a = 1) (hb : b = 0 ∨ b = 1) : a ^^^ b = 0 ∨ a ^^^ b = 1 := by
  rcases ha with rfl | rfl <;> rcases hb with rfl | rfl <;> simp
theorem pO_bit (x : Nat → Nat) (k n : Nat) : pO x k n = 0 ∨ pO x k n = 1 := by
  unfold pO
  split
  · exact coef_bit x _
  · exact .inl rfl
theorem pR_bit (x : Nat → Nat) (n : Nat) : pR x n = 0 ∨ pR x n = 1 := by
  unfold pR
  split
  · exact .inl rfl
  · refine bit_xor (pO_bit x 128 n) ?_
    split
    · exact coef_bit x _
    · exact .inl rfl
theorem pS_lt (x : Nat → Nat) (m n : Nat) : pS x m n < 256 := by
  unfold pS
  split
  · have := pO_bit x 128 n; omega
  · have := pR_bit x n; omega
theorem xor_one (p : Nat) (hp : p < 256) : bits BinOp.xor IntKind.u8 (p : Int) 1 = ((p ^^^ 1 : Nat) : Int) := u8_xor_nat p 1 hp (by decide)

/-- The result, behind k rounds of the last loop. -/
def rK (x : Nat → Nat) : Nat → Nat → Nat
  | 0, _ => 0
  | k + 1, n => if n = 15 - k / 8 then rK x k n ||| pR x k <<< (k % 8) else rK x k n
theorem rK_zero (x : Nat → Nat) (k : Nat) (hc : pR x k = 0) (n : Nat) : rK x k n = rK x (k + 1) n := by
  show _ = (if n = 15 - k / 8 then rK x k n ||| pR x k <<< (k % 8) else rK x k n)
  rw [hc]
  simp
theorem rK_bits (x : Nat → Nat) (k n t : Nat) (hk : k ≤ 128) (hn : n < 16) (ht : t < 8) : (rK x k n).testBit t = (decide (8 * (15 - n) + t < k) && decide (pR x (8 * (15 - n) + t) = 1)) := by
  induction k with
  | zero => simp [rK]
  | succ k ih0 =>
    have ih := ih0 (by omega)
    show (if n = 15 - k / 8 then rK x k n ||| pR x k <<< (k % 8) else rK x k n).testBit t = _
    by_cases e : 8 * (15 - n) + t = k
    · have hn' : n = 15 - k / 8 := by omega
      have ht' : t = k % 8 := by omega
      rw [if_pos hn', Nat.testBit_or, ih, Nat.testBit_shiftLeft, e, ← ht']
      rcases pR_bit x k with h | h <;> simp [h]
    · by_cases h : n = 15 - k / 8
      · have hne : t ≠ k % 8 := by omega
        have hs : (pR x k <<< (k % 8)).testBit t = false := by
          rw [Nat.testBit_shiftLeft]
          by_cases h8 : k % 8 ≤ t
          · have : (pR x k).testBit (t - k % 8) = false := Nat.testBit_lt_two_pow (Nat.lt_of_lt_of_le (show pR x k < 2 ^ 1 by rcases pR_bit x k with h | h <;> omega) (Nat.pow_le_pow_right (by omega) (by omega)))
            simp [this]
          · simp [h8]
        rw [if_pos h, Nat.testBit_or, ih, hs, Bool.or_false]
        congr 1
        exact decide_eq_decide.2 (by omega)
      · rw [if_neg h, ih]
        congr 1
        exact decide_eq_decide.2 (by omega)
theorem rK_lt (x : Nat → Nat) (k n : Nat) : rK x k n < 256 := by
  induction k with
  | zero => exact (by decide : 0 < 256)
  | succ k ih =>
    show (if n = 15 - k / 8 then rK x k n ||| pR x k <<< (k % 8) else rK x k n) < 256
    split
    · refine Nat.or_lt_two_pow (n := 8) ih ?_
      rw [Nat.shiftLeft_eq]
      have h1 : 2 ^ (k % 8) ≤ 2 ^ 7 := Nat.pow_le_pow_right (by omega) (by omega)
      rcases pR_bit x k with h | h <;> rw [h] <;> omega
    · exact ih
theorem rK_one (x : Nat → Nat) (k : Nat) (hc : pR x k = 1) (n : Nat) : (if n = 15 - k / 8 then rK x k (15 - k / 8) ||| 2 ^ (k % 8) else rK x k n) = rK x (k + 1) n := by
  show _ = (if n = 15 - k / 8 then rK x k n ||| pR x k <<< (k % 8) else rK x k n)
  rw [hc, Nat.shiftLeft_eq, Nat.one_mul]
  by_cases e : n = 15 - k / 8
  · rw [if_pos e, if_pos e, e]
  · rw [if_neg e, if_neg e]
theorem or_pow (a k : Nat) (ha : a < 256) : bits BinOp.or IntKind.u8 (a : Int) (2 ^ (k % 8) % 256) = ((a ||| 2 ^ (k % 8) : Nat) : Int) := by
  have h1 : 2 ^ (k % 8) ≤ 2 ^ 7 := Nat.pow_le_pow_right (by omega) (by omega)
  have h2 : 2 ^ (k % 8) < 256 := by omega
  have e : (2 ^ (k % 8) % 256 : Int) = ((2 ^ (k % 8) : Nat) : Int) := by
    have : (2 ^ (k % 8) : Int) = ((2 ^ (k % 8) : Nat) : Int) := by simp
    rw [this]
    generalize 2 ^ (k % 8) = c at h2
    omega
  rw [e]
  exact u8_or_nat a _ ha h2
theorem MemG.setCell_far {w wr : World} {x p : Nat → Nat} (h : MemG w x p wr) (b i : Nat) (v : Value) (hb : w.heap.size + 1 + 1 + 1 < b) : MemG w x p (wr.setCell ⟨b, i, none⟩ v) := by
  obtain ⟨h0, h1, h2, h3, h4⟩ := h
  refine ⟨h0.setCell_other _ _ ?_, h1.setCell_other _ _ ?_, h2.setCell_other _ _ ?_, h3.setCell_other _ _ ?_, h4.setCell ?_ _⟩ <;> simp only <;> omega
theorem pR_mid (x : Nat → Nat) (n : Nat) (h : 8 ≤ n) (h' : n < 128) : pR x n = coef x (n - 1) := by
  unfold pR pO
  rw [if_neg (by omega), if_pos (by omega), if_neg (by omega), Nat.xor_zero]
theorem last_byte : ∀ c, c < 2 → ∀ t, t < 8 → ∀ y, y < 256 → decide (((if 1 ≤ t then y / 2 ^ (t - 1) % 2 else 0) ^^^ (if t = 0 ∨ t = 1 ∨ t = 2 ∨ t = 7 then c else 0)) = 1) = ((y * 2 % 256) ^^^ (c * 135)).testBit t := by decide +kernel
theorem mid_byte : ∀ c, c < 2 → ∀ t, t < 8 → ∀ y, y < 256 → decide ((if t = 0 then c else y / 2 ^ (t - 1) % 2) = 1) = ((y * 2 % 256) ||| c).testBit t := by decide +kernel
theorem rK_dbl (x : Nat → Nat) (hx : ∀ i, x i < 256) (n : Nat) (hn : n < 16) : rK x 128 n = dblF x n := by
  apply Nat.eq_of_testBit_eq
  intro t
  by_cases ht : t < 8
  · rw [rK_bits x 128 n t (Nat.le_refl _) hn ht, decide_eq_true (by omega : 8 * (15 - n) + t < 128), Bool.true_and]
    by_cases h15 : n = 15
    · subst h15
      have h0 := hx 0
      have hc : coef x 127 = x 0 / 128 := by unfold coef; simp only [Nat.reduceDiv, Nat.reduceMod, Nat.reduceSub, Nat.reducePow]; omega
      have hd : dblF x 15 = (x 15 * 2 % 256) ^^^ (x 0 / 128 * 135) := by unfold dblF; rw [if_neg (by omega)]
      rw [hd, ← last_byte (x 0 / 128) (by omega) t ht (x 15) (hx 15)]
      have e : pR x (8 * (15 - 15) + t) = (if 1 ≤ t then x 15 / 2 ^ (t - 1) % 2 else 0) ^^^ (if t = 0 ∨ t = 1 ∨ t = 2 ∨ t = 7 then x 0 / 128 else 0) := by
        rw [show 8 * (15 - 15) + t = t by omega]
        unfold pR
        rw [if_neg (by omega), hc]
        congr 1
        unfold pO coef
        by_cases h1 : 1 ≤ t
        · rw [if_pos (by omega), if_pos h1, show (t - 1) / 8 = 0 by omega, show (t - 1) % 8 = t - 1 by omega]
        · rw [if_neg (by omega), if_neg h1]
      rw [e]
    · have h1 := hx (n + 1)
      have hd : dblF x n = (x n * 2 % 256) ||| (x (n + 1) / 128) := by unfold dblF; rw [if_pos (by omega)]
      rw [hd, ← mid_byte (x (n + 1) / 128) (by omega) t ht (x n) (hx n), pR_mid x _ (by omega) (by omega)]
      have e : coef x (8 * (15 - n) + t - 1) = if t = 0 then x (n + 1) / 128 else x n / 2 ^ (t - 1) % 2 := by
        unfold coef
        by_cases h0 : t = 0
        · subst h0
          rw [if_pos rfl, show 15 - (8 * (15 - n) + 0 - 1) / 8 = n + 1 by omega, show (8 * (15 - n) + 0 - 1) % 8 = 7 by omega]
          simp only [Nat.reducePow]
          omega
        · rw [if_neg h0, show 15 - (8 * (15 - n) + t - 1) / 8 = n by omega, show (8 * (15 - n) + t - 1) % 8 = t - 1 by omega]
      rw [e]
  · have ht' : 2 ^ 8 ≤ 2 ^ t := Nat.pow_le_pow_right (by omega) (by omega)
    rw [Nat.testBit_lt_two_pow (Nat.lt_of_lt_of_le (rK_lt x 128 n) ht'), Nat.testBit_lt_two_pow (Nat.lt_of_lt_of_le (Plain.dblF_lt x hx n) ht')]
theorem pI_lt (x : Nat → Nat) (i j n : Nat) : pI x i j n < 256 := by
  unfold pI pO
  split
  · omega
  · split
    · have := coef_bit x (n - 1); omega
    · omega

set_option maxRecDepth 100000 in
set_option maxHeartbeats 1600000 in
theorem gf_walk (x : Nat → Nat) (hx : ∀ i, x i < 256) (w : World) :
    Calls Trym.prog 14 #[.agg (bl x), .agg (bl px)] w fun e w' => e = .returned (.agg (bl (dblF x))) ∧ Below w.heap.size w w' := by
  have hz := zero37
  go_enter Trym.func14, Trym.ntmps14
  go_wp2_with fail
  rw [bl_zero]
  clear hz
  have HM : Hid (MemG w x (pO x 0) ((((w.alloc (.cells (bl x) 29)).alloc (.cells (bl px) 29)).alloc (.cells (bl fun _ => 0) 29)).alloc (.cells (bq fun _ => 0) 37))) :=
    ⟨((((row.new _ _ _ _ rfl).alloc _).alloc _).alloc _), ((row.new _ _ _ _ (by simp)).alloc _).alloc _, (row.new _ _ _ _ (by simp)).alloc _, (rowq.new _ _ _ _ (by simp)).congr (fun i _ => by simp [pO]; omega),
      (((Below.refl _ _).alloc (Nat.le_refl _) _).alloc (by simp) _).alloc (by simp; omega) _ |>.alloc (by simp; omega) _⟩
  go_loopw [6] (fun i wr => ∃ k : Nat, k ≤ 128 ∧ i = .int .i64 k ∧ MemG w x (pO x k) wr) (fun i _ => 128 - (intOf i).toNat)
  case atStart => exact ⟨0, Nat.zero_le _, rfl, HM.out⟩
  case round =>
    obtain ⟨k, hk, rfl, hm⟩ := hrel
    clear HM
    by_cases hlt : k < 128
    · obtain ⟨h0, h1, h2, h3, h4⟩ := id hm
      go_wp2_with (first | (refine load29 rfl _ rfl _ rfl _ h0 ?_))
      refine (coef_any x hx k hlt _).mono ?_
      rintro e w1 ⟨rfl, rfl⟩
      have hm1 := hm.alloc (.cells (bl x) 29)
      generalize wr.alloc (.cells (bl x) 29) = W1 at hm1 ⊢
      clear hm h0 h1 h2 h3 h4
      rcases coef_bit x k with hc | hc
      · have HC : Hid (coef x k = 0) := hc
        have hd : (((coef x k : Nat) : Int) == 1) = false := by rw [hc]; rfl
        clear hc
        go_wp2_with fail
        go_roundw
        case rel => exact ⟨k + 1, by omega, by go_num, hm1.congr (fun n _ => pO_zero x k HC.out n)⟩
        case measure => simp [intOf]; omega
      · have HC : Hid (coef x k = 1) := hc
        have hd : (((coef x k : Nat) : Int) == 1) = true := by rw [hc]; rfl
        clear hc
        go_wp2_with fail
        have HM1 : Hid (MemG w x (pO x k) W1) := hm1
        clear hm1 hd
        go_loopw [7] (fun i wr => ∃ j : Nat, j ≤ 128 ∧ i = .int .i64 j ∧ MemG w x (pI x k j) wr) (fun i _ => 128 - (intOf i).toNat)
        case atStart => exact ⟨0, Nat.zero_le _, rfl, MemG.congr HM1.out (fun n _ => pI_start x k n)⟩
        case round =>
          obtain ⟨j, hj, rfl, hm⟩ := hrel
          clear HM1
          by_cases hjt : j < 128
          · obtain ⟨h0, h1, h2, h3, h4⟩ := id hm
            have hkj : k + j < 256 := by omega
            have gc := h3.cell (k + j) hkj
            have gf := h3.frozen (k + j)
            have hkj0 : (0 : Int) ≤ (k : Int) + (j : Int) := by omega
            have hkj1 : (k : Int) + (j : Int) < 256 := by omega
            have hb3 := h3.lt
            have HW : Hid _ := wrap_small ((k : Int) + (j : Int)) hkj0 hkj1
            have HP : Hid _ := pI_step x k j hjt
            have HV : Hid _ := u8_xor_nat (pI x k j (k + j)) (coef px j) (pI_lt x k j _) (by have := coef_bit px j; omega)
            go_upto_region 9 with fail
            refine wp_region_held_drew (S := fun w' => row w' (w.heap.size + 1) px) (by kernel_rfl) h1.drew (fun hH => ?_)
            refine wpAnyH_take (i := 0) (v := .int .i64 k) rfl (by kernel_rfl) (by kernel_rfl) (by kernel_rfl) (fun _ _ _ h => h) (Or.inl ⟨by rfl, fun w' _ => by go_simp⟩) hH ?_
            simp only [Act.put, List.setIfInBounds_toArray, List.set_cons_zero, List.set_cons_succ]
            refine wpAnyH_take (i := 1) (v := .int .i64 j) rfl (by kernel_rfl) (by kernel_rfl) (by kernel_rfl) (fun _ _ _ h => h) (Or.inl ⟨by rfl, fun w' _ => by go_simp⟩) hH ?_
            simp only [Act.put, List.setIfInBounds_toArray, List.set_cons_zero, List.set_cons_succ]
            refine wpAnyH_take (i := 2) (v := .int .i64 (k + j)) rfl (by kernel_rfl) (by kernel_rfl) (by kernel_rfl) (fun _ _ _ h => h) (Or.inl ⟨by rfl, fun w' _ => by go_simp; exact HW.out⟩) hH ?_
            simp only [Act.put, List.setIfInBounds_toArray, List.set_cons_zero, List.set_cons_succ]
            refine wpAnyH_take (i := 3) (v := .pointer (some ⟨w.heap.size + 1 + 1 + 1, k + j, none⟩)) rfl (by kernel_rfl) (by kernel_rfl) (by kernel_rfl) (fun _ _ _ h => h) (Or.inl ⟨by rfl, fun w' _ => by go_simp⟩) hH ?_
            simp only [Act.put, List.setIfInBounds_toArray, List.set_cons_zero, List.set_cons_succ]
            refine wpAnyH_take (i := 5) (v := .agg (bl px)) rfl (by kernel_rfl) (by kernel_rfl) (by kernel_rfl) (fun _ _ _ h => h) (yields29 (by rfl) _ rfl _ rfl _ (fun _ h => h)) hH ?_
            simp only [Act.put, List.setIfInBounds_toArray, List.set_cons_zero, List.set_cons_succ]
            refine wpAnyH_take (i := 6) (v := .int .i64 j) rfl (by kernel_rfl) (by kernel_rfl) (by kernel_rfl) (fun _ _ _ h => h) (Or.inl ⟨by rfl, fun w' _ => by go_simp⟩) hH ?_
            simp only [Act.put, List.setIfInBounds_toArray, List.set_cons_zero, List.set_cons_succ]
            refine wpAnyH_ready (rs := [4, 7]) (by kernel_rfl) (by simp) ?_
            refine AllReadyH.cons rfl (fun K hK => ?_) (AllReadyH.cons rfl (fun K hK => ?_) AllReadyH.nil)
            · go_simp
              refine hK.out _ _ hH (fun hH1 => ?_)
              clear hK K
              refine wpAnyH_ready (rs := [7]) (by kernel_rfl) (by simp) ?_
              refine AllReadyH.cons rfl (fun K hK => ?_) AllReadyH.nil
              go_simp
              refine (coef_any px px_lt j hjt _).mono ?_
              rintro e w1 ⟨rfl, rfl⟩
              dsimp only
              refine hK.out _ _ (hH.alloc _) (fun hH2 => ?_)
              clear hK K
              refine wpAnyH_take (i := 8) (v := .int .u8 (bits BinOp.xor IntKind.u8 (pI x k j (k + j) : Nat) (coef px j : Nat))) rfl (by kernel_rfl) (by kernel_rfl) (by kernel_rfl) (fun _ _ _ h => h) (Or.inl ⟨by rfl, fun w' _ => by go_simp⟩) hH2 ?_
              simp only [Act.put, List.setIfInBounds_toArray, List.set_cons_zero, List.set_cons_succ]
              rw [HV.out]
              refine wpAnyH_take (i := 9) (v := .pointer (some ⟨w.heap.size + 1 + 1 + 1, k + j, none⟩)) rfl (by kernel_rfl) (by kernel_rfl) (by kernel_rfl) (fun _ _ _ h => h) (Or.inl ⟨by rfl, fun w' _ => by go_simp⟩) hH2 ?_
              simp only [Act.put, List.setIfInBounds_toArray, List.set_cons_zero, List.set_cons_succ]
              refine wpAnyH_ready (rs := [10]) (by kernel_rfl) (by simp) ?_
              refine AllReadyH.cons rfl (fun K hK => ?_) AllReadyH.nil
              go_simp
              have hm2 : MemG w x (pI x k (j + 1)) (((wr.setCell ⟨w.heap.size + 1 + 1 + 1, k + j, none⟩ (.int .u8 (pI x k j (k + j) ^^^ coef px j : Nat))).alloc (.cells (bl px) 29)).drew) :=
                (((hm.setCell _ _).congr (fun n _ => HP.out n)).alloc _).drew
              refine hK.out _ _ hm2.2.1 (fun _ => ?_)
              clear hK K
              refine wpAnyH_done (by kernel_rfl) ?_ _
              clear gc gf h0 h1 h2 h3 h4 hH hH1 hH2 hm
              generalize ((wr.setCell ⟨w.heap.size + 1 + 1 + 1, k + j, none⟩ (.int .u8 (pI x k j (k + j) ^^^ coef px j : Nat))).alloc (.cells (bl px) 29)).drew = W2 at hm2 ⊢
              go_wp2_with fail
              go_roundw
              case rel => exact ⟨j + 1, by omega, by go_num, hm2⟩
              case measure => simp [intOf]; omega
            · go_simp
              refine (coef_any px px_lt j hjt _).mono ?_
              rintro e w1 ⟨rfl, rfl⟩
              dsimp only
              refine hK.out _ _ (hH.alloc _) (fun hH2 => ?_)
              clear hK K
              refine wpAnyH_ready (rs := [4]) (by kernel_rfl) (by simp) ?_
              refine AllReadyH.cons rfl (fun K hK => ?_) AllReadyH.nil
              go_simp
              refine hK.out _ _ hH2 (fun hH1 => ?_)
              clear hK K
              refine wpAnyH_take (i := 8) (v := .int .u8 (bits BinOp.xor IntKind.u8 (pI x k j (k + j) : Nat) (coef px j : Nat))) rfl (by kernel_rfl) (by kernel_rfl) (by kernel_rfl) (fun _ _ _ h => h) (Or.inl ⟨by rfl, fun w' _ => by go_simp⟩) hH2 ?_
              simp only [Act.put, List.setIfInBounds_toArray, List.set_cons_zero, List.set_cons_succ]
              rw [HV.out]
              refine wpAnyH_take (i := 9) (v := .pointer (some ⟨w.heap.size + 1 + 1 + 1, k + j, none⟩)) rfl (by kernel_rfl) (by kernel_rfl) (by kernel_rfl) (fun _ _ _ h => h) (Or.inl ⟨by rfl, fun w' _ => by go_simp⟩) hH2 ?_
              simp only [Act.put, List.setIfInBounds_toArray, List.set_cons_zero, List.set_cons_succ]
              refine wpAnyH_ready (rs := [10]) (by kernel_rfl) (by simp) ?_
              refine AllReadyH.cons rfl (fun K hK => ?_) AllReadyH.nil
              go_simp
              have hm2 : MemG w x (pI x k (j + 1)) (((wr.setCell ⟨w.heap.size + 1 + 1 + 1, k + j, none⟩ (.int .u8 (pI x k j (k + j) ^^^ coef px j : Nat))).alloc (.cells (bl px) 29)).drew) :=
                (((hm.setCell _ _).congr (fun n _ => HP.out n)).alloc _).drew
              refine hK.out _ _ hm2.2.1 (fun _ => ?_)
              clear hK K
              refine wpAnyH_done (by kernel_rfl) ?_ _
              clear gc gf h0 h1 h2 h3 h4 hH hH1 hH2 hm
              generalize ((wr.setCell ⟨w.heap.size + 1 + 1 + 1, k + j, none⟩ (.int .u8 (pI x k j (k + j) ^^^ coef px j : Nat))).alloc (.cells (bl px) 29)).drew = W2 at hm2 ⊢
              go_wp2_with fail
              go_roundw
              case rel => exact ⟨j + 1, by omega, by go_num, hm2⟩
              case measure => simp [intOf]; omega
          · have hj8 : j = 128 := by omega
            subst hj8
            go_wp2_with fail
            go_roundw
            case rel => exact ⟨k + 1, by omega, by go_num, hm.congr (fun n _ => pI_end x k HC.out n)⟩
            case measure => simp [intOf]; omega
    · have hk8 : k = 128 := by omega
      subst hk8
      have HM2 : Hid (MemG w x (pO x 128) wr) := hm
      clear hm
      go_wp2_with fail
      go_loopw [8] (fun i wr => ∃ m : Nat, 127 ≤ m ∧ m ≤ 254 ∧ i = .int .i64 m ∧ MemG w x (pS x m) wr) (fun i _ => (intOf i).toNat)
      case atStart => exact ⟨254, by omega, by omega, rfl, MemG.congr HM2.out (fun n _ => by rw [pS, if_pos (by omega)])⟩
      case round =>
        obtain ⟨m, hm1, hm2, rfl, hm⟩ := hrel
        clear HM2
        by_cases h129 : 129 ≤ m
        · obtain ⟨h0, h1, h2, h3, h4⟩ := id hm
          have gc := h3.cell m (by omega)
          rw [pS_high x m h129] at gc
          clear h0 h1 h2 h3 h4
          have hge : (128 : Int) ≤ (m : Int) := by omega
          have hlt : (m : Int) < 256 := by omega
          go_wp2_with fail
          go_roundw
          case rel => exact ⟨m - 1, by omega, by omega, by go_num, hm.congr (fun n _ => by rw [pS, if_pos (by omega), pS, if_pos (by omega)])⟩
          case measure => simp [intOf]; omega
        by_cases h128 : m = 128
        · subst h128
          obtain ⟨h0, h1, h2, h3, h4⟩ := id hm
          have gc := h3.cell 128 (by omega)
          rw [pS_128] at gc
          rcases coef_bit x 127 with hc | hc
          · have HC : Hid (coef x 127 = 0) := hc
            have hd : (((coef x 127 : Nat) : Int) == 1) = false := by rw [hc]; rfl
            clear hc h0 h1 h2 h3 h4
            go_wp2_with fail
            go_roundw
            case rel => exact ⟨127, by omega, by omega, rfl, hm.congr (fun n hn => pS_keep x HC.out n)⟩
            case measure => simp [intOf]
          · have HC : Hid (coef x 127 = 1) := hc
            have hd : (((coef x 127 : Nat) : Int) == 1) = true := by rw [hc]; rfl
            have c7 := h3.cell 7 (by omega)
            have c2 := h3.cell 2 (by omega)
            have c1 := h3.cell 1 (by omega)
            have c0 := h3.cell 0 (by omega)
            have f128 := h3.frozen 128
            have f7 := h3.frozen 7
            have f2 := h3.frozen 2
            have f1 := h3.frozen 1
            have f0 := h3.frozen 0
            clear hc h0 h1 h2 h3 h4
            go_wp2_with fail
            go_roundw
            case rel =>
              refine ⟨127, by omega, by omega, rfl, ?_⟩
              rw [xor_one (pS x 128 7) (pS_lt x 128 7), xor_one (pS x 128 2) (pS_lt x 128 2), xor_one (pS x 128 1) (pS_lt x 128 1), xor_one (pS x 128 0) (pS_lt x 128 0)]
              exact (((((hm.setCell 128 0).setCell 7 _).setCell 2 _).setCell 1 _).setCell 0 _).congr (fun n _ => pS_step x HC.out n)
            case measure => simp [intOf]
        · have h127 : m = 127 := by omega
          subst h127
          have hmR : MemG w x (pR x) wr := hm.congr (fun n _ => by rw [pS, if_neg (by omega)])
          have hb3 := hmR.2.2.2.1.lt
          have HM3 : Hid (MemG w x (pR x) (wr.alloc (.cells (bl fun _ => 0) 29))) := hmR.alloc _
          clear hm hmR
          go_wp2_with fail
          rw [bl_zero]
          go_loopw [10] (fun i wq => ∃ k : Nat, k ≤ 128 ∧ i = .int .i64 k ∧ MemG w x (pR x) wq ∧ row wq wr.heap.size (rK x k)) (fun i _ => 128 - (intOf i).toNat)
          case atStart => exact ⟨0, Nat.zero_le _, rfl, HM3.out, row.new _ _ _ _ rfl⟩
          case round =>
            obtain ⟨k, hk, rfl, hm, hr⟩ := hrel
            clear HM3
            by_cases hlt : k < 128
            · obtain ⟨h0, h1, h2, h3, h4⟩ := id hm
              have gc := h3.cell k (by omega)
              have hki : (k : Int) < 256 := by omega
              rcases pR_bit x k with hc | hc
              · have HC : Hid (pR x k = 0) := hc
                have hd : (((pR x k : Nat) : Int) == 1) = false := by rw [hc]; rfl
                clear hc h0 h1 h2 h3 h4
                go_wp2_with fail
                go_roundw
                case rel => exact ⟨k + 1, by omega, by go_num, hm, hr.congr (fun n _ => rK_zero x k HC.out n)⟩
                case measure => simp [intOf]; omega
              · have HC : Hid (pR x k = 1) := hc
                have hd : (((pR x k : Nat) : Int) == 1) = true := by rw [hc]; rfl
                have g2 := hr.cell (15 - k / 8) (by omega)
                have f2 := hr.frozen (15 - k / 8)
                clear hc h0 h1 h2 h3 h4
                go_wp2_with fail
                go_roundw
                case rel =>
                  refine ⟨k + 1, by omega, by go_num, ?_⟩
                  rw [or_pow (rK x k (15 - k / 8)) k (rK_lt x k _)]
                  exact ⟨hm.setCell_far _ _ _ hb3, (hr.setCell _ _).congr (fun n _ => rK_one x k HC.out n)⟩
                case measure => simp [intOf]; omega
            · have hk8 : k = 128 := by omega
              subst hk8
              obtain ⟨h0, h1, h2, h3, h4⟩ := id hm
              go_wp2_with (first | (refine load29 rfl _ rfl _ rfl _ hr ?_) | (refine store29 rfl rfl _ _ rfl _ rfl _ rfl _ h2 ?_))
              refine bodyPost_ret (result_row Trym.results14 (.inl rfl) _ _ (w.heap.size + 1 + 1) (rK x 128) rfl (h2.set _)) rfl ⟨?_, below_setRow h4 _ _ (by omega)⟩
              rw [bl_congr (rK x 128) (dblF x) (fun n hn => rK_dbl x hx n hn)]
end Go.Proofs.Qxb6605413aMods
