/- The proof of Rows.FnInverseIsInvolutionAndCancelsSaid: the frame is the guide's shell for this function, the walk is ours. -/
import Derived.Test.Qxb6605413aModsRows
import Derived.Test.Qxb6605413aModsMul
import Derived.Test.Qxb6605413aModsGf8
import Derived.Test.Qxb6605413aModsInv
import Derived.WalkKit
import Derived.ProofKit
import Derived.OpenShut
import Derived.ShutString
namespace Go.Proofs.Qxb6605413aMods.fnInverseIsInvolutionAndCancels
open Go.ChangeShapes Go.WideShapes Go.ChangeAt Go.RowKit
open Go.ChangeMaps (open_string shut_string)
open Plain
set_option linter.unusedVariables false      -- a walk need not use every 'w<i>' (that an integer argument fits its kind)

theorem own : ownKnob Trym.prog.godebug = none := by kernel_rfl

theorem lay_zero (F : Nat → Nat) (k : Nat) (h : F k = 0) : layK F k = layK F (k + 1) := by
  show _ = layK F k ||| F k * 2 ^ (8 * k)
  rw [h]
  simp

/-! ### STEP 1: THE WALK: the Go text returns true. 'Grown w w'': the world has at most new blocks (Derived/RowKit3.lean). Part the cases AHEAD of 'go_enter' where a test parts the walk; take each callee by a contract of your own. -/
theorem walk (a0 : Int) (w0 : (Lit.int .u64 a0).wf = true) (w : World) :
    Calls Trym.prog 6 #[.int .u64 a0] w fun e w' => e = .returned (.bool true) ∧ Grown w w' := by
  obtain ⟨p0, q0⟩ := bounds_u64 w0
  clear w0
  obtain ⟨x, rfl⟩ := Int.eq_ofNat_of_zero_le p0
  have hx : x < 18446744073709551616 := by omega
  clear p0 q0
  have HB : Hid _ := inv_back x hx
  have HI : Hid _ := mul_inv x
  have hv := invN_lt x
  generalize hF : (fun i => one (lane i x)) = F at HI
  have hF1 : ∀ i, F i < 256 := fun i => by rw [← hF]; exact one_lt _
  have HF : Hid (∀ i, F i = one (lane i x)) := fun i => by rw [← hF]
  clear hF
  go_enter Trym.func6, Trym.ntmps6
  go_wp2_with fail
  refine (zzinverse_any x hx _).mono ?_
  rintro e w' ⟨rfl, rfl⟩
  go_wp2_with fail
  go_loop [4, 5] (fun r i => ∃ k : Nat, k ≤ 8 ∧ i = .int .i64 k ∧ r = .int .u64 (layK F k : Nat)) (fun _ i => 8 - (intOf i).toNat)
  case atStart => exact ⟨0, Nat.zero_le _, rfl, rfl⟩
  case round =>
    obtain ⟨k, hk, rfl, rfl⟩ := hrel
    by_cases hlt : k < 8
    · by_cases hz : lane k x = 0
      · have hd : (((x : Int) / 2 ^ (8 * k) % 256) != 0) = false := by rw [lane_int x k, hz]; rfl
        have HZ : Hid (layK F k = layK F (k + 1)) := lay_zero F k (by rw [HF.out, hz]; rfl)
        clear hz
        go_wp2_with fail
        go_round
        case rel => exact ⟨k + 1, by omega, by go_num, val_int (by rw [← HZ.out])⟩
        case measure => simp [intOf]; omega
      · have hd : (((x : Int) / 2 ^ (8 * k) % 256) != 0) = true := by rw [lane_int x k]; simp; omega
        have HZ : Hid (F k = 1) := by show F k = 1; rw [HF.out, one, if_neg hz]
        clear hz
        go_wp2_with fail
        go_round
        case rel =>
          refine ⟨k + 1, by omega, by go_num, val_int ?_⟩
          rw [← lay_step F hF1 k hlt, HZ.out, show (((1 : Nat) : Int) * 2 ^ (8 * k)) = 2 ^ (8 * k) from Int.one_mul _]
        case measure => simp [intOf]; omega
    · have hk8 : k = 8 := by omega
      subst hk8
      go_wp2_with fail
      refine (zzinverse_any (invN x) hv _).mono ?_
      rintro e w' ⟨rfl, rfl⟩
      rw [HB.out]
      go_wp2_with fail
      refine (zzmul_any x (invN x) hx hv _).mono ?_
      rintro e w' ⟨rfl, rfl⟩
      rw [HI.out]
      go_wp2_with fail
      go_ret
      exact ⟨rfl, Grown.refl _⟩

/-! ### THE ROW's STEP: WRITTEN OUT: LEAVE IT -/
set_option maxRecDepth 100000 in
theorem lifted (os : Os) (started : os.Started) (H : Type) (enc : TypeId × Value → H) :
    ReturnsInHanded {} Trym.checked os 6 .any (Rows.fnInverseIsInvolutionAndCancelsSpec.pre6 enc Trym.prog Trym.f6 Rows.fnInverseIsInvolutionAndCancelsRow.domain false) (Rows.fnInverseIsInvolutionAndCancelsSpec.post enc Trym.prog Trym.f6 false true false false) := by
  refine returnsInHanded_of_change (C := Trym.checked) own started (by kernel_rfl) Trym.func6
    (ChangeSpec.witness6 (enc := enc) (C := Trym.checked) false ⟨#[], #[.int .u64 0], []⟩ 8 (by kernel_rfl) (by kernel_rfl) (by kernel_rfl) (by kernel_rfl)) ?_
  intro W base args ds gs before hval0 hW hcnd _
  have hval : ∀ (j : Nat) t v, Trym.f6.params[j]? = some t → args[j]? = some v → Value.okWide Trym.prog W .any base t v := hval0
  have hW' := hW
  obtain ⟨p, q, hA0, hV, rfl, hfz, hnd⟩ := hW
  have hA : DataW.TrodAll enc Trym.prog W 0 (fun _ => true) true Trym.f6.params.toList args.toList ds p := hA0
  rw [Trym.params6] at hA hval
  obtain ⟨v0, vs0, d0, ds0, p0, q0, hargs, rfl, rfl, h0, r0⟩ := trodAll_cons hA
  obtain ⟨rfl, rfl, rfl⟩ := trodAll_nil r0
  obtain rfl : args = #[v0] := by cases args; simp_all
  obtain ⟨rfl, rfl⟩ := trodVars_none hV
  obtain ⟨a0, rfl, rfl, rfl, w0⟩ := open_int Trym.underlying22 (hval 0 22 v0 rfl rfl) h0
  clear hA0 hval0
  simp only [List.append_nil] at hW'
  refine (walk a0 w0 W).mono fun e W' ⟨he, hg⟩ => ?_
  subst he
  exact ⟨_, rfl, post_of_same (pa := []) (pv := []) hW' (fun _ _ _ => (trodAll_cons_mk (shut_bool Trym.underlying4 _) trodAll_mk0)) (fun sp _ => (trodAll_cons_mk (shut_int Trym.underlying22 w0) trodAll_mk0)) (fun _ _ => rfl) rfl
    (hg.frame _) hg.2.1 (ok_one (by kernel_rfl) rfl (okWide_bool_mk Trym.underlying4 _))⟩

theorem over : Rows.fnInverseIsInvolutionAndCancelsRow.holds Trym.pinned (OpenSpec.ofChange Rows.fnInverseIsInvolutionAndCancelsSpec) :=
  OpenClaim.holds_of_wide 6 Trym.f6 rfl rfl rfl rfl rfl rfl rfl ⟨rfl, rfl, rfl, rfl, rfl⟩ rfl rfl rfl rfl rfl (by kernel_rfl) Trym.func6 (by kernel_rfl)
    (of_decide_eq_true (by kernel_rfl)) (by unfold Func.isWrapper; first | (rw [if_pos (by decide +kernel)]; kernel_rfl) | (rw [if_neg (by decide +kernel)]; exact ⟨rfl, rfl⟩))
    (fun os started H enc _ => lifted os started H enc)

/-- ████ THE STATEMENT ████ -/
theorem proved : Rows.FnInverseIsInvolutionAndCancelsSaid :=
  over
#print axioms proved
end Go.Proofs.Qxb6605413aMods.fnInverseIsInvolutionAndCancels
