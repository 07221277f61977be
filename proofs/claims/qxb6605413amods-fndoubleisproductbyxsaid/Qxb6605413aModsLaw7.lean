/- THE WALK OF FnDoubleIsProductByX. -/
import Derived.Test.Qxb6605413aModsGf
import Derived.Test.Qxb6605413aModsDouble
import Derived.Test.Qxb6605413aModsEql
namespace Go.Proofs.Qxb6605413aMods
open Go.ChangeShapes Go.WideShapes Go.ChangeAt Go.RowKit
set_option linter.unusedSimpArgs false

theorem bl_px : (#[.int .u8 0, .int .u8 0, .int .u8 0, .int .u8 0, .int .u8 0, .int .u8 0, .int .u8 0, .int .u8 0, .int .u8 0, .int .u8 0, .int .u8 0, .int .u8 0, .int .u8 0, .int .u8 0, .int .u8 0, .int .u8 2] : Array Value) = bl px := by
  rfl

/-- What the last region reads: x and the polynomial. -/
def Two (w : World) (x : Nat → Nat) (w' : World) : Prop := row w' w.heap.size x ∧ row w' (w.heap.size + 1) px ∧ Below w.heap.size w w'
theorem Two.keep {w w1 w2 : World} {x : Nat → Nat} (h : Two w x w1) (hb : Below w1.heap.size w1 w2) : Two w x w2 :=
  ⟨h.1.below hb, h.2.1.below hb, h.2.2.trans (hb.mono h.2.2.size)⟩

set_option maxHeartbeats 1600000 in
theorem law7_walk (x : Nat → Nat) (hx : ∀ i, x i < 256) (w : World) :
    Calls Trym.prog 7 #[.agg (bl x)] w fun e w' => e = .returned (.bool true) ∧ Below w.heap.size w w' := by
  have HE : Hid _ := run_eql_bl (dblF x) (Plain.dblF_lt x hx)
  go_enter Trym.func7, Trym.ntmps7
  go_upto_region 3 with fail
  rw [bl_px]
  have h2 : Two w x ((w.alloc (.cells (bl x) 29)).alloc (.cells (bl px) 29)) :=
    ⟨(row.new _ _ _ _ rfl).alloc _, row.new _ _ _ _ (by simp), ((Below.refl _ _).alloc (Nat.le_refl _) _).alloc (by simp) _⟩
  generalize (w.alloc (.cells (bl x) 29)).alloc (.cells (bl px) 29) = W at h2 ⊢
  refine wp_region_held_drew (S := Two w x) (by kernel_rfl) (h2.keep (Below.refl _ _).drew) (fun hH => ?_)
  refine wpAnyH_take (i := 0) (v := .agg (bl x)) rfl (by kernel_rfl) (by kernel_rfl) (by kernel_rfl) (fun _ _ _ h => h) (yields29 (by rfl) _ rfl _ rfl _ (fun _ h => h.1)) hH ?_
  simp only [Act.put, List.setIfInBounds_toArray, List.set_cons_zero, List.set_cons_succ]
  refine wpAnyH_take (i := 2) (v := .agg (bl x)) rfl (by kernel_rfl) (by kernel_rfl) (by kernel_rfl) (fun _ _ _ h => h) (yields29 (by rfl) _ rfl _ rfl _ (fun _ h => h.1)) hH ?_
  simp only [Act.put, List.setIfInBounds_toArray, List.set_cons_zero, List.set_cons_succ]
  refine wpAnyH_take (i := 3) (v := .agg (bl px)) rfl (by kernel_rfl) (by kernel_rfl) (by kernel_rfl) (fun _ _ _ h => h) (yields29 (by rfl) _ rfl _ rfl _ (fun _ h => h.2.1)) hH ?_
  simp only [Act.put, List.setIfInBounds_toArray, List.set_cons_zero, List.set_cons_succ]
  refine wpAnyH_ready (rs := [1]) (by kernel_rfl) (by simp) ?_
  refine AllReadyH.cons rfl (fun K hK => ?_) AllReadyH.nil
  go_simp
  refine (zzdouble_any x hx _).mono ?_
  rintro e w1 ⟨rfl, hb1⟩
  dsimp only
  refine hK.out _ _ (hH.keep hb1) (fun hH1 => ?_)
  clear hK K hH hb1
  refine wpAnyH_ready (rs := [4]) (by kernel_rfl) (by simp) ?_
  refine AllReadyH.cons rfl (fun K hK => ?_) AllReadyH.nil
  go_simp
  refine (gf_walk x hx _).mono ?_
  rintro e w2 ⟨rfl, hb2⟩
  dsimp only
  refine hK.out _ _ (hH1.keep hb2) (fun hH2 => ?_)
  clear hK K hH1 hb2
  have he := HE.out
  refine wpAnyH_ready (rs := [5]) (by kernel_rfl) (by simp) ?_
  refine AllReadyH.cons rfl (fun K hK => ?_) AllReadyH.nil
  go_simp
  refine hK.out _ _ hH2 (fun _ => ?_)
  clear hK K
  refine wpAnyH_ready (rs := [6]) (by kernel_rfl) (by simp) ?_
  refine AllReadyH.cons rfl (fun K hK => ?_) AllReadyH.nil
  go_simp
  refine hK.out _ _ hH2 (fun _ => ?_)
  clear hK K
  refine wpAnyH_done (by kernel_rfl) ?_ _
  go_wp2_with fail
  go_ret
  exact ⟨rfl, hH2.2.2⟩
end Go.Proofs.Qxb6605413aMods
