/- The proof of Rows.FnMulObeysFieldLawsSaid: the frame is the guide's shell for this function, the walk is ours. -/
import Derived.Test.Qxb6605413aModsRows
import Derived.Test.Qxb6605413aModsMul
import Derived.WalkKit
import Derived.ProofKit
import Derived.OpenShut
import Derived.ShutString
namespace Go.Proofs.Qxb6605413aMods.fnMulObeysFieldLaws
open Go.ChangeShapes Go.WideShapes Go.ChangeAt Go.RowKit
open Go.ChangeMaps (open_string shut_string)
open Plain
set_option linter.unusedVariables false      -- a walk need not use every 'w<i>' (that an integer argument fits its kind)

theorem own : ownKnob Trym.prog.godebug = none := by kernel_rfl

/-! ### STEP 1: THE WALK: the Go text returns true. 'Grown w w'': the world has at most new blocks (Derived/RowKit3.lean). Part the cases AHEAD of 'go_enter' where a test parts the walk; take each callee by a contract of your own. -/
theorem walk (a0 : Int) (a1 : Int) (a2 : Int) (w0 : (Lit.int .u64 a0).wf = true) (w1 : (Lit.int .u64 a1).wf = true) (w2 : (Lit.int .u64 a2).wf = true) (w : World) :
    Calls Trym.prog 4 #[.int .u64 a0, .int .u64 a1, .int .u64 a2] w fun e w' => e = .returned (.bool true) ∧ Grown w w' := by
  obtain ⟨p0, q0⟩ := bounds_u64 w0
  obtain ⟨p1, q1⟩ := bounds_u64 w1
  obtain ⟨p2, q2⟩ := bounds_u64 w2
  clear w0 w1 w2
  obtain ⟨a, rfl⟩ := Int.eq_ofNat_of_zero_le p0
  obtain ⟨b, rfl⟩ := Int.eq_ofNat_of_zero_le p1
  obtain ⟨c, rfl⟩ := Int.eq_ofNat_of_zero_le p2
  have ha : a < 18446744073709551616 := by omega
  have hb : b < 18446744073709551616 := by omega
  have hc : c < 18446744073709551616 := by omega
  clear p0 p1 p2 q0 q1 q2
  have hab := mulN_lt a b
  have hbc := mulN_lt b c
  have hx := Plain.xor_lt hb hc
  have H1 : Hid (mulN b a = mulN a b) := mulN_comm b a
  have H2 : Hid (mulN (mulN a b) c = mulN a (mulN b c)) := mulN_assoc a b c
  have H3 : Hid (mulN a (b ^^^ c) = mulN a b ^^^ mulN a c) := mulN_xor a b c
  have H4 : Hid (mulN a 72340172838076673 = a) := mulN_one a ha
  have H5 : Hid (bits BinOp.xor IntKind.u64 (b : Int) (c : Int) = ((b ^^^ c : Nat) : Int)) := u64_xor_nat b c hb hc
  have H6 : Hid (bits BinOp.xor IntKind.u64 ((mulN a b : Nat) : Int) ((mulN a c : Nat) : Int) = ((mulN a b ^^^ mulN a c : Nat) : Int)) := u64_xor_nat _ _ hab (mulN_lt a c)
  go_enter Trym.func4, Trym.ntmps4
  go_wp2_with fail
  refine (zzmul_any a b ha hb _).mono ?_
  rintro e w' ⟨rfl, rfl⟩
  go_wp2_with fail
  refine (zzmul_any b a hb ha _).mono ?_
  rintro e w' ⟨rfl, rfl⟩
  rw [H1.out]
  go_wp2_with fail
  refine (zzmul_any (mulN a b) c hab hc _).mono ?_
  rintro e w' ⟨rfl, rfl⟩
  rw [H2.out]
  go_wp2_with fail
  refine (zzmul_any b c hb hc _).mono ?_
  rintro e w' ⟨rfl, rfl⟩
  go_wp2_with fail
  refine (zzmul_any a (mulN b c) ha hbc _).mono ?_
  rintro e w' ⟨rfl, rfl⟩
  go_wp2_with fail
  rw [H5.out]
  refine (zzmul_any a (b ^^^ c) ha hx _).mono ?_
  rintro e w' ⟨rfl, rfl⟩
  rw [H3.out]
  go_wp2_with fail
  refine (zzmul_any a c ha hc _).mono ?_
  rintro e w' ⟨rfl, rfl⟩
  have H6' := H6.out
  go_wp2_with fail
  refine (zzmul_any a 72340172838076673 ha (by decide) _).mono ?_
  rintro e w' ⟨rfl, rfl⟩
  rw [H4.out]
  go_wp2_with fail
  go_ret
  exact ⟨rfl, Grown.refl _⟩

/-! ### THE ROW's STEP: WRITTEN OUT: LEAVE IT -/
set_option maxRecDepth 100000 in
theorem lifted (os : Os) (started : os.Started) (H : Type) (enc : TypeId × Value → H) :
    ReturnsInHanded {} Trym.checked os 4 .any (Rows.fnMulObeysFieldLawsSpec.pre6 enc Trym.prog Trym.f4 Rows.fnMulObeysFieldLawsRow.domain false) (Rows.fnMulObeysFieldLawsSpec.post enc Trym.prog Trym.f4 false true false false) := by
  refine returnsInHanded_of_change (C := Trym.checked) own started (by kernel_rfl) Trym.func4
    (ChangeSpec.witness6 (enc := enc) (C := Trym.checked) false ⟨#[], #[.int .u64 0, .int .u64 0, .int .u64 0], []⟩ 8 (by kernel_rfl) (by kernel_rfl) (by kernel_rfl) (by kernel_rfl)) ?_
  intro W base args ds gs before hval0 hW hcnd _
  have hval : ∀ (j : Nat) t v, Trym.f4.params[j]? = some t → args[j]? = some v → Value.okWide Trym.prog W .any base t v := hval0
  have hW' := hW
  obtain ⟨p, q, hA0, hV, rfl, hfz, hnd⟩ := hW
  have hA : DataW.TrodAll enc Trym.prog W 0 (fun _ => true) true Trym.f4.params.toList args.toList ds p := hA0
  rw [Trym.params4] at hA hval
  obtain ⟨v0, vs0, d0, ds0, p0, q0, hargs, rfl, rfl, h0, r0⟩ := trodAll_cons hA
  obtain ⟨v1, vs1, d1, ds1, p1, q1, rfl, rfl, rfl, h1, r1⟩ := trodAll_cons r0
  obtain ⟨v2, vs2, d2, ds2, p2, q2, rfl, rfl, rfl, h2, r2⟩ := trodAll_cons r1
  obtain ⟨rfl, rfl, rfl⟩ := trodAll_nil r2
  obtain rfl : args = #[v0, v1, v2] := by cases args; simp_all
  obtain ⟨rfl, rfl⟩ := trodVars_none hV
  obtain ⟨a0, rfl, rfl, rfl, w0⟩ := open_int Trym.underlying22 (hval 0 22 v0 rfl rfl) h0
  obtain ⟨a1, rfl, rfl, rfl, w1⟩ := open_int Trym.underlying22 (hval 1 22 v1 rfl rfl) h1
  obtain ⟨a2, rfl, rfl, rfl, w2⟩ := open_int Trym.underlying22 (hval 2 22 v2 rfl rfl) h2
  clear hA0 hval0
  simp only [List.append_nil] at hW'
  refine (walk a0 a1 a2 w0 w1 w2 W).mono fun e W' ⟨he, hg⟩ => ?_
  subst he
  exact ⟨_, rfl, post_of_same (pa := []) (pv := []) hW' (fun _ _ _ => (trodAll_cons_mk (shut_bool Trym.underlying4 _) trodAll_mk0)) (fun sp _ => (trodAll_cons_mk (shut_int Trym.underlying22 w0) (trodAll_cons_mk (shut_int Trym.underlying22 w1) (trodAll_cons_mk (shut_int Trym.underlying22 w2) trodAll_mk0)))) (fun _ _ => rfl) rfl
    (hg.frame _) hg.2.1 (ok_one (by kernel_rfl) rfl (okWide_bool_mk Trym.underlying4 _))⟩

theorem over : Rows.fnMulObeysFieldLawsRow.holds Trym.pinned (OpenSpec.ofChange Rows.fnMulObeysFieldLawsSpec) :=
  OpenClaim.holds_of_wide 4 Trym.f4 rfl rfl rfl rfl rfl rfl rfl ⟨rfl, rfl, rfl, rfl, rfl⟩ rfl rfl rfl rfl rfl (by kernel_rfl) Trym.func4 (by kernel_rfl)
    (of_decide_eq_true (by kernel_rfl)) (by unfold Func.isWrapper; first | (rw [if_pos (by decide +kernel)]; kernel_rfl) | (rw [if_neg (by decide +kernel)]; exact ⟨rfl, rfl⟩))
    (fun os started H enc _ => lifted os started H enc)

/-- ████ THE STATEMENT ████ -/
theorem proved : Rows.FnMulObeysFieldLawsSaid :=
  over
#print axioms proved
end Go.Proofs.Qxb6605413aMods.fnMulObeysFieldLaws
