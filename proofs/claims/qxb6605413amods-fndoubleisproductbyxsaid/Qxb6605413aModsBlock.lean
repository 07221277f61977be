/- BLOCKS OF SIXTEEN BYTES IN MEMORY: the array of a block, whole loads and stores, and where they lie behind new blocks. -/
import Derived.Test.Qxb6605413aModsRows
import Derived.WalkKit
import Derived.ProofKit
import Derived.LoopTactic
import Derived.Laws.Rows
import Derived.Laws.Tables
import Derived.Laws.BitsAllLaws
import Derived.Deep.Draws
namespace Go.Proofs.Qxb6605413aMods
open Go.ChangeShapes Go.WideShapes Go.ChangeAt Go.RowKit

/-- The cells of an array of sixteen bytes. -/
def bl (x : Nat → Nat) : Array Value := Array.ofFn (n := 16) fun i => .int .u8 (x i)
theorem bl_size (x : Nat → Nat) : (bl x).size = 16 := by simp [bl]
theorem bl_get (x : Nat → Nat) (i : Nat) (h : i < 16) : (bl x)[i]? = some (.int .u8 (x i)) := by
  simp [bl, h]
theorem bl_set (x : Nat → Nat) (i v : Nat) : (bl x).setIfInBounds i (.int .u8 v) = bl (fun j => if j = i then v else x j) := by
  apply Array.ext
  · simp [bl]
  · intro j h1 h2
    have h3 : j < (bl x).size := by simpa [bl] using h2
    rw [Array.getElem_setIfInBounds h3]
    by_cases h : i = j
    · subst h; simp [bl]
    · simp [bl, h, Ne.symm h]
theorem bl_congr (x y : Nat → Nat) (h : ∀ i, i < 16 → x i = y i) : bl x = bl y := by
  apply Array.ext
  · simp [bl]
  · intro j h1 h2
    have h3 : j < 16 := by simpa [bl] using h2
    simp [bl, h j h3]
theorem bl_one (x : Nat → Nat) : (bl x).all (·.oneCell') = true := by
  rw [Array.all_eq_true]
  intro i hi
  simp [bl, Value.oneCell']
theorem bl_zero : (#[.int .u8 0, .int .u8 0, .int .u8 0, .int .u8 0, .int .u8 0, .int .u8 0, .int .u8 0, .int .u8 0, .int .u8 0, .int .u8 0, .int .u8 0, .int .u8 0, .int .u8 0, .int .u8 0, .int .u8 0, .int .u8 0] : Array Value) = bl (fun _ => 0) := by
  rfl
theorem info35 (x : Nat → Nat) : (Trym.prog.info? 35).map (·.size) = some (bl x).size := by
  rw [bl_size]; kernel_rfl
theorem info29 (x : Nat → Nat) : (Trym.prog.info? 29).map (·.size) = some (bl x).size := by
  rw [bl_size]; kernel_rfl

theorem alloc_drewN (w : World) (n : Nat) (o : Obj) : (w.drewN n).alloc o = (w.alloc o).drewN n := rfl
theorem setCell_drewN (w : World) (n : Nat) (a : Addr) (v : Value) : (w.drewN n).setCell a v = (w.setCell a v).drewN n := rfl

section
variable {P : Program}
theorem wp_store_row {o : Oper} {a : Act} {w : World} {K : Act → World → Prop} {Q : Exit → Act → World → Prop} (ty : TypeId) (x y : Operand) (ho : o.op = .store ty x y)
    (g : Nat) (hx : a.eval x = .pointer (some ⟨g, 0, none⟩)) (cs : Array Value) (hy : a.eval y = .agg cs) (t : TypeId) (old : Array Value) (hg : w.heap[g]? = some (.cells old t))
    (hi : (P.info? ty).map (·.size) = some cs.size) (hs : old.size = cs.size) (h1 : cs.all (·.oneCell') = true)
    (h : K (a.put o.dst undef) (w.setRow g cs)) : o.wp P a w K Q := by
  unfold Oper.wp execOp
  simp only [ho, hx, hy, Instr.storeAt, Instr.sureAddr, Sem.run_bind, Sem.run_pure, Result.andThen_ok, run_storeVar_row w g t ty old cs hg hi hs h1]
  exact h
theorem wpList_store_row {ops : Array Oper} {rest : List Oper} {o : Oper} {a : Act} {w : World} {Q : Exit → Act → World → Prop} (hgd : o.guard = none) (ty : TypeId) (x y : Operand) (ho : o.op = .store ty x y)
    (g : Nat) (hx : a.eval x = .pointer (some ⟨g, 0, none⟩)) (cs : Array Value) (hy : a.eval y = .agg cs) (t : TypeId) (old : Array Value) (hg : w.heap[g]? = some (.cells old t))
    (hi : (P.info? ty).map (·.size) = some cs.size) (hs : old.size = cs.size) (h1 : cs.all (·.oneCell') = true)
    (h : wpList P ops Q rest (a.put o.dst undef) (w.setRow g cs)) : wpList P ops Q (o :: rest) a w :=
  wpList_plain hgd fun _ hK => wp_store_row ty x y ho g hx cs hy t old hg hi hs h1 (hK _ _ h)
end

/-! ### 'row W b x': block b of the world W is just the array of x -/
def row (W : World) (b : Nat) (x : Nat → Nat) : Prop := ∃ t, W.heap[b]? = some (.cells (bl x) t)
theorem row.lt {W : World} {b : Nat} {x : Nat → Nat} (h : row W b x) : b < W.heap.size := by
  obtain ⟨t, h⟩ := h
  exact (Array.getElem?_eq_some_iff.1 h).1
theorem row.of_heap {W W' : World} {b : Nat} {x : Nat → Nat} (h : row W b x) (e : W'.heap[b]? = W.heap[b]?) : row W' b x := by
  obtain ⟨t, h⟩ := h
  exact ⟨t, e.trans h⟩
theorem row.below {W W' : World} {b : Nat} {x : Nat → Nat} (h : row W b x) (hb : Below W.heap.size W W') : row W' b x :=
  h.of_heap (hb.block b h.lt)
theorem row.alloc {W : World} {b : Nat} {x : Nat → Nat} (h : row W b x) (o : Obj) : row (W.alloc o) b x :=
  h.of_heap (Below.heap_alloc W o b h.lt)
theorem row.new (W : World) (x : Nat → Nat) (t : TypeId) (b : Nat) (hb : b = W.heap.size) : row (W.alloc (.cells (bl x) t)) b x :=
  ⟨t, by rw [hb]; exact heap_alloc_new W _⟩
theorem row.drewN {W : World} {b : Nat} {x : Nat → Nat} (h : row W b x) (n : Nat) : row (W.drewN n) b x := h
theorem row.set {W : World} {b : Nat} {x : Nat → Nat} (h : row W b x) (y : Nat → Nat) : row (W.setRow b (bl y)) b y := by
  obtain ⟨t, h⟩ := h
  exact ⟨t, setRow_heap W b (bl x) (bl y) t _ h⟩
theorem row.set_other {W : World} {b : Nat} {x : Nat → Nat} (h : row W b x) (g : Nat) (cs : Array Value) (hg : b ≠ g) : row (W.setRow g cs) b x :=
  h.of_heap (setRow_other W g b cs hg)
theorem row.cell {W : World} {b : Nat} {x : Nat → Nat} (h : row W b x) (i : Nat) (hi : i < 16) : W.cell? ⟨b, i, none⟩ = some (.int .u8 (x i)) := by
  obtain ⟨t, h⟩ := h
  simp [World.cell?, h, bl_get x i hi]
theorem row.frozen {W : World} {b : Nat} {x : Nat → Nat} (h : row W b x) (i : Nat) : W.frozen? ⟨b, i, none⟩ = false := by
  obtain ⟨t, h⟩ := h
  simp [World.frozen?, h]
theorem row.setCell {W : World} {b : Nat} {x : Nat → Nat} (h : row W b x) (i v : Nat) : row (W.setCell ⟨b, i, none⟩ (.int .u8 v)) b (fun j => if j = i then v else x j) := by
  obtain ⟨t, h⟩ := h
  rw [setCell_eq_setRow W b i (bl x) t _ _ h, bl_set]
  exact ⟨t, setRow_heap W b (bl x) _ t _ h⟩
theorem row.congr {W : World} {b : Nat} {x y : Nat → Nat} (h : row W b x) (e : ∀ i, i < 16 → x i = y i) : row W b y := by
  rw [row, ← bl_congr x y e]; exact h
theorem below_setRow {B : Nat} {a w : World} (h : Below B a w) (g : Nat) (cs : Array Value) (hg : B ≤ g) : Below B a (w.setRow g cs) :=
  h.trans ⟨rfl, rfl, rfl, by simp, fun k hk => setRow_other w g k cs (by omega)⟩
theorem below_drewN' {B : Nat} {a w : World} (h : Below B a w) (n : Nat) : Below B a (w.drewN n) := h.trans ⟨rfl, rfl, rfl, Nat.le_refl _, fun _ _ => rfl⟩

section
variable {ops : Array Oper} {rest : List Oper} {o : Oper} {a : Act} {w : World} {Q : Exit → Act → World → Prop}
/-- A whole block is loaded: at type 35 (aez.block). -/
theorem load35 (hgd : o.guard = none) (x : Operand) (ho : o.op = .load 35 x) (g : Nat) (hx : a.eval x = .pointer (some ⟨g, 0, none⟩)) (y : Nat → Nat) (hg : row w g y)
    (h : wpList Trym.prog ops Q rest (a.put o.dst (.agg (bl y))) w) : wpList Trym.prog ops Q (o :: rest) a w := by
  obtain ⟨t, hg⟩ := hg
  exact wpList_load_row hgd 35 x ho g hx t (bl y) (0, 0) _ hg Trym.underlying35 rfl (info35 y) h
/-- A whole block is loaded: at type 29 ([16]byte). -/
theorem load29 (hgd : o.guard = none) (x : Operand) (ho : o.op = .load 29 x) (g : Nat) (hx : a.eval x = .pointer (some ⟨g, 0, none⟩)) (y : Nat → Nat) (hg : row w g y)
    (h : wpList Trym.prog ops Q rest (a.put o.dst (.agg (bl y))) w) : wpList Trym.prog ops Q (o :: rest) a w := by
  obtain ⟨t, hg⟩ := hg
  exact wpList_load_row hgd 29 x ho g hx t (bl y) (0, 0) _ hg Trym.underlying29 rfl (info29 y) h
/-- A whole block is stored. -/
theorem store35 (hgd : o.guard = none) (hdst : o.dst = none) (x y : Operand) (ho : o.op = .store 35 x y) (g : Nat) (hx : a.eval x = .pointer (some ⟨g, 0, none⟩)) (v : Nat → Nat) (hy : a.eval y = .agg (bl v)) (u : Nat → Nat) (hg : row w g u)
    (h : wpList Trym.prog ops Q rest a (w.setRow g (bl v))) : wpList Trym.prog ops Q (o :: rest) a w := by
  obtain ⟨t, hg⟩ := hg
  exact wpList_store_row hgd 35 x y ho g hx (bl v) hy t (bl u) hg (info35 v) (by rw [bl_size, bl_size]) (bl_one v) (by rw [hdst]; exact h)
theorem store29 (hgd : o.guard = none) (hdst : o.dst = none) (x y : Operand) (ho : o.op = .store 29 x y) (g : Nat) (hx : a.eval x = .pointer (some ⟨g, 0, none⟩)) (v : Nat → Nat) (hy : a.eval y = .agg (bl v)) (u : Nat → Nat) (hg : row w g u)
    (h : wpList Trym.prog ops Q rest a (w.setRow g (bl v))) : wpList Trym.prog ops Q (o :: rest) a w := by
  obtain ⟨t, hg⟩ := hg
  exact wpList_store_row hgd 29 x y ho g hx (bl v) hy t (bl u) hg (info29 v) (by rw [bl_size, bl_size]) (bl_one v) (by rw [hdst]; exact h)
end
/-- The function's result is read out of its variable. -/
theorem result_row {fn : Func} {p : Tmp} {ty : TypeId} (h : fn.results = #[.cell p ty]) (hty : ty = 29 ∨ ty = 35) (tmps : Array Value) (w : World) (g : Nat) (y : Nat → Nat)
    (hp : tmps.getD p undef = .pointer (some ⟨g, 0, none⟩)) (hg : row w g y) : (results fn tmps).run Trym.prog w = .ok (.agg (bl y)) w := by
  obtain ⟨t, hg⟩ := hg
  rcases hty with rfl | rfl
  · exact results_cell_row h tmps w g t (bl y) (0, 0) _ hp hg Trym.underlying29 rfl (info29 y)
  · exact results_cell_row h tmps w g t (bl y) (0, 0) _ hp hg Trym.underlying35 rfl (info35 y)
end Go.Proofs.Qxb6605413aMods
