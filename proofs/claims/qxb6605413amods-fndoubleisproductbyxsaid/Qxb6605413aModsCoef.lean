/- THE WALK OF zzCoef; an array of 256 bytes in memory. -/
import Derived.Test.Qxb6605413aModsBlock
import Derived.Test.Qxb6605413aModsPlainDbl
namespace Go.Proofs.Qxb6605413aMods
open Go.ChangeShapes Go.WideShapes Go.ChangeAt Go.RowKit

/-- The coefficient of x^i in a block. -/
def coef (x : Nat → Nat) (i : Nat) : Nat := x (15 - i / 8) / 2 ^ (i % 8) % 2

theorem coef_eq (x : Nat → Nat) (hx : ∀ i, x i < 256) (i : Nat) : bits BinOp.and IntKind.u8 ((x (15 - i / 8) : Int) / 2 ^ (i % 8)) 1 = ((coef x i : Nat) : Int) := by
  have h := hx (15 - i / 8)
  have hd : x (15 - i / 8) / 2 ^ (i % 8) < 256 := Nat.lt_of_le_of_lt (Nat.div_le_self _ _) h
  have e : ((x (15 - i / 8) : Int) / 2 ^ (i % 8)) = ((x (15 - i / 8) / 2 ^ (i % 8) : Nat) : Int) := by simp
  rw [e]
  refine (u8_and_nat _ 1 hd (by decide)).trans ?_
  rw [Nat.and_one_is_mod]
  rfl

set_option maxHeartbeats 400000 in
theorem coef_any (x : Nat → Nat) (hx : ∀ i, x i < 256) (i : Nat) (hi : i < 128) (w : World) :
    Calls Trym.prog 21 #[.agg (bl x), .int .i64 i] w fun e w' => e = .returned (.int .u8 (coef x i : Nat)) ∧ w' = w.alloc (.cells (bl x) 29) := by
  have g := bl_get x (15 - i / 8) (by omega)
  have h := hx (15 - i / 8)
  have HC : Hid _ := coef_eq x hx i
  go_enter Trym.func21, Trym.ntmps21
  go_wp2
  go_ret
  exact ⟨by rw [← HC.out]; rfl, rfl⟩

/-! ### An array of 256 bytes -/
def bq (x : Nat → Nat) : Array Value := Array.ofFn (n := 256) fun i => .int .u8 (x i)
theorem bq_size (x : Nat → Nat) : (bq x).size = 256 := by simp [bq]
theorem bq_get (x : Nat → Nat) (i : Nat) (h : i < 256) : (bq x)[i]? = some (.int .u8 (x i)) := by
  simp [bq, h]
theorem bq_set (x : Nat → Nat) (i v : Nat) : (bq x).setIfInBounds i (.int .u8 v) = bq (fun j => if j = i then v else x j) := by
  apply Array.ext
  · simp [bq]
  · intro j h1 h2
    have h3 : j < (bq x).size := by simpa [bq] using h2
    rw [Array.getElem_setIfInBounds h3]
    by_cases h : i = j
    · subst h; simp [bq]
    · simp [bq, h, Ne.symm h]
theorem bq_congr (x y : Nat → Nat) (h : ∀ i, i < 256 → x i = y i) : bq x = bq y := by
  apply Array.ext
  · simp [bq]
  · intro j h1 h2
    have h3 : j < 256 := by simpa [bq] using h2
    simp [bq, h j h3]
def rowq (W : World) (b : Nat) (x : Nat → Nat) : Prop := ∃ t, W.heap[b]? = some (.cells (bq x) t)
theorem rowq.lt {W : World} {b : Nat} {x : Nat → Nat} (h : rowq W b x) : b < W.heap.size := by
  obtain ⟨t, h⟩ := h
  exact (Array.getElem?_eq_some_iff.1 h).1
theorem rowq.of_heap {W W' : World} {b : Nat} {x : Nat → Nat} (h : rowq W b x) (e : W'.heap[b]? = W.heap[b]?) : rowq W' b x := by
  obtain ⟨t, h⟩ := h
  exact ⟨t, e.trans h⟩
theorem rowq.alloc {W : World} {b : Nat} {x : Nat → Nat} (h : rowq W b x) (o : Obj) : rowq (W.alloc o) b x :=
  h.of_heap (Below.heap_alloc W o b h.lt)
theorem rowq.new (W : World) (x : Nat → Nat) (t : TypeId) (b : Nat) (hb : b = W.heap.size) : rowq (W.alloc (.cells (bq x) t)) b x :=
  ⟨t, by rw [hb]; exact heap_alloc_new W _⟩
theorem rowq.cell {W : World} {b : Nat} {x : Nat → Nat} (h : rowq W b x) (i : Nat) (hi : i < 256) : W.cell? ⟨b, i, none⟩ = some (.int .u8 (x i)) := by
  obtain ⟨t, h⟩ := h
  simp [World.cell?, h, bq_get x i hi]
theorem rowq.frozen {W : World} {b : Nat} {x : Nat → Nat} (h : rowq W b x) (i : Nat) : W.frozen? ⟨b, i, none⟩ = false := by
  obtain ⟨t, h⟩ := h
  simp [World.frozen?, h]
theorem rowq.setCell {W : World} {b : Nat} {x : Nat → Nat} (h : rowq W b x) (i v : Nat) : rowq (W.setCell ⟨b, i, none⟩ (.int .u8 v)) b (fun j => if j = i then v else x j) := by
  obtain ⟨t, h⟩ := h
  rw [setCell_eq_setRow W b i (bq x) t _ _ h, bq_set]
  exact ⟨t, setRow_heap W b (bq x) _ t _ h⟩
theorem rowq.congr {W : World} {b : Nat} {x y : Nat → Nat} (h : rowq W b x) (e : ∀ i, i < 256 → x i = y i) : rowq W b y := by
  rw [rowq, ← bq_congr x y e]; exact h
theorem row.setCell_other {W : World} {b : Nat} {x : Nat → Nat} (h : row W b x) (a : Addr) (v : Value) (ha : b ≠ a.block) : row (W.setCell a v) b x :=
  h.of_heap (Below.heap_setCell W a v b ha)
theorem rowq.setCell_other {W : World} {b : Nat} {x : Nat → Nat} (h : rowq W b x) (a : Addr) (v : Value) (ha : b ≠ a.block) : rowq (W.setCell a v) b x :=
  h.of_heap (Below.heap_setCell W a v b ha)
theorem rowq.drew {W : World} {b : Nat} {x : Nat → Nat} (h : rowq W b x) : rowq W.drew b x := h
theorem row.drew {W : World} {b : Nat} {x : Nat → Nat} (h : row W b x) : row W.drew b x := h

/-- The zero value of an array of 256 bytes. -/
theorem zero37 : (∀ w, (zeroValue 37).run Trym.prog w = .ok (.agg (bq fun _ => 0)) w) := by
  intro w
  have h : (Trym.prog.info? 37).map (fun i => (i.zero, i.size)) = some (some (.agg (bq fun _ => 0)), 256) := by kernel_rfl
  cases hq : Trym.prog.info? 37 with
  | none => simp [hq] at h
  | some i =>
    simp [hq] at h
    simp [zeroValue, typeInfo, hq, h.1]
end Go.Proofs.Qxb6605413aMods
