/- THE WALK OF FnDoubleTimes128IsProductBy0x87. -/
import Derived.Test.Qxb6605413aModsDouble
import Derived.Test.Qxb6605413aModsXor
import Derived.Test.Qxb6605413aModsEql
import Derived.Deep.RegionHeld3
namespace Go.Proofs.Qxb6605413aMods
open Go.ChangeShapes Go.WideShapes Go.ChangeAt Go.RowKit
open Plain
set_option linter.unusedSimpArgs false

def atK (x : Nat → Nat) (m k : Nat) (i : Nat) : Nat := if m ≤ k then dK x m i else 0
theorem atK_step (x : Nat → Nat) (m k : Nat) (h : m ≠ k + 1) : atK x m k = atK x m (k + 1) := by
  funext i
  unfold atK
  by_cases e : m ≤ k
  · rw [if_pos e, if_pos (by omega)]
  · rw [if_neg e, if_neg (by omega)]
theorem atK_pred (x : Nat → Nat) (m k : Nat) (hk : 1 ≤ k) (h : m ≠ k) : atK x m (k - 1) = atK x m k := by
  obtain ⟨j, rfl⟩ : ∃ j, k = j + 1 := ⟨k - 1, by omega⟩
  exact atK_step x m j h
theorem atK_at (x : Nat → Nat) (m k : Nat) (h : m ≤ k) : atK x m k = dK x m := by
  funext i
  unfold atK
  rw [if_pos h]

theorem dK_pred (x : Nat → Nat) (k : Nat) (h : 1 ≤ k) : dK x k = dblF (dK x (k - 1)) := by
  obtain ⟨j, rfl⟩ : ∃ j, k = j + 1 := ⟨k - 1, by omega⟩
  rfl

/-- The loop's memory: x, d, d1, d2, d7. -/
def Mem (w : World) (x d d1 d2 d7 : Nat → Nat) (wr : World) : Prop :=
  row wr w.heap.size x ∧ row wr (w.heap.size + 1) d ∧ row wr (w.heap.size + 1 + 1) d1 ∧ row wr (w.heap.size + 1 + 1 + 1) d2 ∧ row wr (w.heap.size + 1 + 1 + 1 + 1) d7 ∧ Below w.heap.size w wr

theorem Mem.below {w wr wr' : World} {x d d1 d2 d7 : Nat → Nat} (h : Mem w x d d1 d2 d7 wr) (hb : Below wr.heap.size wr wr') : Mem w x d d1 d2 d7 wr' := by
  obtain ⟨h0, h1, h2, h3, h4, h5⟩ := h
  exact ⟨h0.below hb, h1.below hb, h2.below hb, h3.below hb, h4.below hb, h5.trans (hb.mono h5.size)⟩
theorem Mem.set1 {w wr : World} {x d d1 d2 d7 : Nat → Nat} (h : Mem w x d d1 d2 d7 wr) (y : Nat → Nat) : Mem w x y d1 d2 d7 (wr.setRow (w.heap.size + 1) (bl y)) := by
  obtain ⟨h0, h1, h2, h3, h4, h5⟩ := h
  exact ⟨h0.set_other _ _ (by omega), h1.set _, h2.set_other _ _ (by omega), h3.set_other _ _ (by omega), h4.set_other _ _ (by omega), below_setRow h5 _ _ (by omega)⟩
theorem Mem.set2 {w wr : World} {x d d1 d2 d7 : Nat → Nat} (h : Mem w x d d1 d2 d7 wr) (y : Nat → Nat) : Mem w x d y d2 d7 (wr.setRow (w.heap.size + 1 + 1) (bl y)) := by
  obtain ⟨h0, h1, h2, h3, h4, h5⟩ := h
  exact ⟨h0.set_other _ _ (by omega), h1.set_other _ _ (by omega), h2.set _, h3.set_other _ _ (by omega), h4.set_other _ _ (by omega), below_setRow h5 _ _ (by omega)⟩
theorem Mem.set3 {w wr : World} {x d d1 d2 d7 : Nat → Nat} (h : Mem w x d d1 d2 d7 wr) (y : Nat → Nat) : Mem w x d d1 y d7 (wr.setRow (w.heap.size + 1 + 1 + 1) (bl y)) := by
  obtain ⟨h0, h1, h2, h3, h4, h5⟩ := h
  exact ⟨h0.set_other _ _ (by omega), h1.set_other _ _ (by omega), h2.set_other _ _ (by omega), h3.set _, h4.set_other _ _ (by omega), below_setRow h5 _ _ (by omega)⟩
theorem Mem.set4 {w wr : World} {x d d1 d2 d7 : Nat → Nat} (h : Mem w x d d1 d2 d7 wr) (y : Nat → Nat) : Mem w x d d1 d2 y (wr.setRow (w.heap.size + 1 + 1 + 1 + 1) (bl y)) := by
  obtain ⟨h0, h1, h2, h3, h4, h5⟩ := h
  exact ⟨h0.set_other _ _ (by omega), h1.set_other _ _ (by omega), h2.set_other _ _ (by omega), h3.set_other _ _ (by omega), h4.set _, below_setRow h5 _ _ (by omega)⟩

/-- The memory as the loop begins. -/
theorem Mem.start (w W : World) (x : Nat → Nat) (h0 : row W w.heap.size x) (h1 : row W (w.heap.size + 1) x) (hs : W.heap.size = w.heap.size + 1 + 1) (hb : Below w.heap.size w W) :
    Mem w x x (fun _ => 0) (fun _ => 0) (fun _ => 0) (((W.alloc (.cells (bl fun _ => 0) 29)).alloc (.cells (bl fun _ => 0) 29)).alloc (.cells (bl fun _ => 0) 29)) :=
  ⟨((h0.alloc _).alloc _).alloc _, ((h1.alloc _).alloc _).alloc _, ((row.new _ _ _ _ hs.symm).alloc _).alloc _, (row.new _ _ _ _ (by simp [hs])).alloc _, row.new _ _ _ _ (by simp [hs]),
    ((hb.alloc (by omega) _).alloc (by simp; omega) _).alloc (by simp; omega) _⟩

/-- In a region that draws its order: a whole block is loaded. -/
theorem yields29 {S : World → Prop} {ops : Array Oper} {o : Oper} {a : Act} (hw : Region.wanted o (yielded ops a.tmps) = true) (x : Operand) (ho : o.op = .load 29 x) (g : Nat) (hx : a.eval x = .pointer (some ⟨g, 0, none⟩))
    (y : Nat → Nat) (hS : ∀ w, S w → row w g y) : YieldsIf Trym.prog ops S o (.agg (bl y)) a :=
  .inl ⟨hw, fun w hw' => by
    obtain ⟨t, hg⟩ := hS w hw'
    unfold execOp
    simp only [ho, hx, Instr.loadAt, Instr.sureAddr, Sem.run_bind, Sem.run_pure, Result.andThen_ok, run_loadVar_row w g t 29 (bl y) (0, 0) _ hg Trym.underlying29 rfl (info29 y)]⟩

set_option maxHeartbeats 1600000 in
theorem law8_walk (x : Nat → Nat) (hx : ∀ i, x i < 256) (w : World) :
    Calls Trym.prog 8 #[.agg (bl x)] w fun e w' => e = .returned (.bool true) ∧ Below w.heap.size w w' := by
  go_enter Trym.func8, Trym.ntmps8
  go_upto_region 1 with fail
  have hr0 : row (w.alloc (.cells (bl x) 29)) w.heap.size x := row.new _ _ _ _ rfl
  have hr1 : row ((w.alloc (.cells (bl x) 29)).alloc (.cells (bl fun _ => 0) 29)) (w.heap.size + 1) (fun _ => 0) := row.new _ _ _ _ (by simp)
  go_upto_region 2 with (first | (refine load29 rfl _ rfl _ rfl _ hr0 ?_) | (rw [bl_zero]; refine store29 rfl rfl _ _ rfl _ rfl _ rfl _ hr1 ?_))
  have k0 : row (((w.alloc (.cells (bl x) 29)).alloc (.cells (bl fun _ => 0) 29)).setRow (w.heap.size + 1) (bl x)) w.heap.size x := (hr0.alloc _).set_other _ _ (by omega)
  have k1 : row (((w.alloc (.cells (bl x) 29)).alloc (.cells (bl fun _ => 0) 29)).setRow (w.heap.size + 1) (bl x)) (w.heap.size + 1) x := hr1.set _
  have kb : Below w.heap.size w (((w.alloc (.cells (bl x) 29)).alloc (.cells (bl fun _ => 0) 29)).setRow (w.heap.size + 1) (bl x)) :=
    below_setRow (((Below.refl _ _).alloc (Nat.le_refl _) _).alloc (by simp) _) _ _ (by omega)
  have ks : (((w.alloc (.cells (bl x) 29)).alloc (.cells (bl fun _ => 0) 29)).setRow (w.heap.size + 1) (bl x)).heap.size = w.heap.size + 1 + 1 := by simp
  generalize ((w.alloc (.cells (bl x) 29)).alloc (.cells (bl fun _ => 0) 29)).setRow (w.heap.size + 1) (bl x) = W at k0 k1 kb ks ⊢
  clear hr0 hr1
  have HM : Hid _ := Mem.start w W x k0 k1 ks kb
  clear k0 k1 kb
  go_wp2_with fail
  rw [bl_zero]
  go_loopw [7] (fun i wr => ∃ k : Nat, 1 ≤ k ∧ k ≤ 129 ∧ i = .int .i64 k ∧ Mem w x (dK x (k - 1)) (atK x 1 (k - 1)) (atK x 2 (k - 1)) (atK x 7 (k - 1)) wr) (fun i _ => 129 - (intOf i).toNat)
  case atStart => exact ⟨1, Nat.le_refl _, by omega, rfl, HM.out⟩
  case round =>
    obtain ⟨k, hk1, hk, rfl, hm⟩ := hrel
    clear HM ks
    by_cases hlt : k < 129
    · have hd := dK_lt x hx (k - 1)
      have hle : k ≤ 128 := by omega
      obtain ⟨h0, h1, h2, h3, h4, h5⟩ := id hm
      clear h0 h2 h3 h4 h5
      go_wp2_with (first | (refine load29 rfl _ rfl _ rfl _ h1 ?_))
      refine (zzdouble_any (dK x (k - 1)) hd _).mono ?_
      rintro e w1 ⟨rfl, hb1⟩
      have hm1 := hm.below hb1
      obtain ⟨-, h1', -, -, -, -⟩ := id hm1
      clear hb1 h1 hm
      go_upto_region 7 with (first | (refine store29 rfl rfl _ _ rfl _ rfl _ rfl _ h1' ?_))
      have hm2 := hm1.set1 (dblF (dK x (k - 1)))
      rw [← dK_pred x k hk1] at hm2
      rw [← dK_pred x k hk1]
      generalize w1.setRow (w.heap.size + 1) (bl (dK x k)) = W2 at hm2 ⊢
      clear hm1 h1'
      clear hd
      by_cases e1 : k = 1
      · subst e1
        obtain ⟨-, h1, h2, -, -, -⟩ := id hm2
        go_wp2_with (first | (refine load29 rfl _ rfl _ rfl _ h1 ?_) | (refine store29 rfl rfl _ _ rfl _ rfl _ rfl _ h2 ?_))
        go_roundw
        case rel => exact ⟨2, by omega, by omega, rfl, hm2.set2 _⟩
        case measure => simp [intOf]
      by_cases e2 : k = 2
      · subst e2
        obtain ⟨-, h1, -, h2, -, -⟩ := id hm2
        go_wp2_with (first | (refine load29 rfl _ rfl _ rfl _ h1 ?_) | (refine store29 rfl rfl _ _ rfl _ rfl _ rfl _ h2 ?_))
        go_roundw
        case rel => exact ⟨3, by omega, by omega, rfl, hm2.set3 _⟩
        case measure => simp [intOf]
      by_cases e7 : k = 7
      · subst e7
        obtain ⟨-, h1, -, -, h2, -⟩ := id hm2
        go_wp2_with (first | (refine load29 rfl _ rfl _ rfl _ h1 ?_) | (refine store29 rfl rfl _ _ rfl _ rfl _ rfl _ h2 ?_))
        go_roundw
        case rel => exact ⟨8, by omega, by omega, rfl, hm2.set4 _⟩
        case measure => simp [intOf]
      go_wp2_with fail
      go_roundw
      case rel =>
        refine ⟨k + 1, by omega, by omega, by go_num, ?_⟩
        rw [Nat.add_sub_cancel, ← atK_pred x 1 k hk1 (by omega), ← atK_pred x 2 k hk1 (by omega), ← atK_pred x 7 k hk1 (by omega)]
        exact hm2
      case measure => simp [intOf]; omega
    · have hk9 : k = 129 := by omega
      subst hk9
      go_upto_region 13 with fail
      have hm' : Mem w x (dK x 128) (dK x 1) (dK x 2) (dK x 7) wr := by
        rw [← atK_at x 1 128 (by omega), ← atK_at x 2 128 (by omega), ← atK_at x 7 128 (by omega)]
        exact hm
      clear hm hk hk1 hlt
      have HE : Hid _ := run_eql_bl (dK x 128) (dK_lt x hx 128)
      have HX : Hid (bl (xorF (xorF x (dK x 1)) (xorF (dK x 2) (dK x 7))) = bl (dK x 128)) := (bl_congr _ _ (dK_128 x hx)).symm
      have c1 := dK_lt x hx 1
      have c2 := dK_lt x hx 2
      have c7 := dK_lt x hx 7
      have b1 := xorF_lt x (dK x 1) hx c1
      have b2 := xorF_lt (dK x 2) (dK x 7) c2 c7
      refine wp_region_held_drew (S := Mem w x (dK x 128) (dK x 1) (dK x 2) (dK x 7)) (by kernel_rfl) (hm'.below (Below.refl _ _).drew) (fun hH => ?_)
      refine wpAnyH_take (i := 0) (v := .agg (bl (dK x 128))) rfl (by kernel_rfl) (by kernel_rfl) (by kernel_rfl) (fun _ _ _ h => h) (yields29 (by rfl) _ rfl _ rfl _ (fun _ h => h.2.1)) hH ?_
      simp only [Act.put, List.setIfInBounds_toArray, List.set_cons_zero, List.set_cons_succ]
      refine wpAnyH_take (i := 1) (v := .agg (bl x)) rfl (by kernel_rfl) (by kernel_rfl) (by kernel_rfl) (fun _ _ _ h => h) (yields29 (by rfl) _ rfl _ rfl _ (fun _ h => h.1)) hH ?_
      simp only [Act.put, List.setIfInBounds_toArray, List.set_cons_zero, List.set_cons_succ]
      refine wpAnyH_take (i := 2) (v := .agg (bl (dK x 1))) rfl (by kernel_rfl) (by kernel_rfl) (by kernel_rfl) (fun _ _ _ h => h) (yields29 (by rfl) _ rfl _ rfl _ (fun _ h => h.2.2.1)) hH ?_
      simp only [Act.put, List.setIfInBounds_toArray, List.set_cons_zero, List.set_cons_succ]
      refine wpAnyH_take (i := 4) (v := .agg (bl (dK x 2))) rfl (by kernel_rfl) (by kernel_rfl) (by kernel_rfl) (fun _ _ _ h => h) (yields29 (by rfl) _ rfl _ rfl _ (fun _ h => h.2.2.2.1)) hH ?_
      simp only [Act.put, List.setIfInBounds_toArray, List.set_cons_zero, List.set_cons_succ]
      refine wpAnyH_take (i := 5) (v := .agg (bl (dK x 7))) rfl (by kernel_rfl) (by kernel_rfl) (by kernel_rfl) (fun _ _ _ h => h) (yields29 (by rfl) _ rfl _ rfl _ (fun _ h => h.2.2.2.2.1)) hH ?_
      simp only [Act.put, List.setIfInBounds_toArray, List.set_cons_zero, List.set_cons_succ]
      refine wpAnyH_ready (rs := [3]) (by kernel_rfl) (by simp) ?_
      refine AllReadyH.cons rfl (fun K hK => ?_) AllReadyH.nil
      go_simp
      refine (xor16_any x (dK x 1) hx c1 _).mono ?_
      rintro e w1 ⟨rfl, hb1⟩
      dsimp only
      refine hK.out _ _ (hH.below hb1) (fun hH1 => ?_)
      clear hK K hH hb1
      refine wpAnyH_ready (rs := [6]) (by kernel_rfl) (by simp) ?_
      refine AllReadyH.cons rfl (fun K hK => ?_) AllReadyH.nil
      go_simp
      refine (xor16_any (dK x 2) (dK x 7) c2 c7 _).mono ?_
      rintro e w2 ⟨rfl, hb2⟩
      dsimp only
      refine hK.out _ _ (hH1.below hb2) (fun hH2 => ?_)
      clear hK K hH1 hb2
      refine wpAnyH_ready (rs := [7]) (by kernel_rfl) (by simp) ?_
      refine AllReadyH.cons rfl (fun K hK => ?_) AllReadyH.nil
      go_simp
      refine (xor16_any (xorF x (dK x 1)) (xorF (dK x 2) (dK x 7)) b1 b2 _).mono ?_
      rintro e w3 ⟨rfl, hb3⟩
      dsimp only
      refine hK.out _ _ (hH2.below hb3) (fun hH3 => ?_)
      clear hK K hH2 hb3
      rw [HX.out]
      have he := HE.out
      refine wpAnyH_ready (rs := [8]) (by kernel_rfl) (by simp) ?_
      refine AllReadyH.cons rfl (fun K hK => ?_) AllReadyH.nil
      go_simp
      refine hK.out _ _ hH3 (fun _ => ?_)
      clear hK K
      refine wpAnyH_ready (rs := [9]) (by kernel_rfl) (by simp) ?_
      refine AllReadyH.cons rfl (fun K hK => ?_) AllReadyH.nil
      go_simp
      refine hK.out _ _ hH3 (fun _ => ?_)
      clear hK K
      refine wpAnyH_done (by kernel_rfl) ?_ _
      go_wp2_with fail
      go_ret
      exact ⟨rfl, hH3.2.2.2.2.2⟩
end Go.Proofs.Qxb6605413aMods
