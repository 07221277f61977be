/- zzIsAlnumByte, zzByteModelNetworkName, ZZIsNetworkName: the walks. -/
import Derived.Test.Qxb6000902aModsName
namespace Go.Proofs.Qxb6000902aMods
open Go.ChangeShapes Go.WideShapes Go.ChangeAt Go.RowKit
set_option linter.unusedVariables false

theorem al_yes (c : Nat) (h : (97 ≤ c ∧ c ≤ 122) ∨ (65 ≤ c ∧ c ≤ 90) ∨ (48 ≤ c ∧ c ≤ 57)) : al c = true := decide_eq_true h
theorem al_no (c : Nat) (h : ¬ ((97 ≤ c ∧ c ≤ 122) ∨ (65 ≤ c ∧ c ≤ 90) ∨ (48 ≤ c ∧ c ≤ 57))) : al c = false := decide_eq_false h
theorem ranges (c : Nat) : c < 48 ∨ (48 ≤ c ∧ c ≤ 57) ∨ (58 ≤ c ∧ c ≤ 64) ∨ (65 ≤ c ∧ c ≤ 90) ∨ (91 ≤ c ∧ c ≤ 96) ∨ (97 ≤ c ∧ c ≤ 122) ∨ 123 ≤ c := by omega

set_option maxHeartbeats 1600000 in
theorem alnum_any (c : Nat) (hc : c < 256) (w : World) :
    Calls Trym.prog 31 #[.int .u8 c] w fun e w' => e = .returned (.bool (al c)) ∧ w' = w := by
  rcases ranges c with h | ⟨h1, h2⟩ | ⟨h1, h2⟩ | ⟨h1, h2⟩ | ⟨h1, h2⟩ | ⟨h1, h2⟩ | h
  · have HA : Hid _ := al_no c (by omega)
    go_enter Trym.func31, Trym.ntmps31
    go_wp2
    go_ret
    exact ⟨by rw [HA.out]; rfl, rfl⟩
  · have HA : Hid _ := al_yes c (by omega)
    have u57 : decide ((c : Int) ≤ 57) = true := by simp; omega
    go_enter Trym.func31, Trym.ntmps31
    go_wp2
    go_ret
    exact ⟨by rw [HA.out]; rfl, rfl⟩
  · have HA : Hid _ := al_no c (by omega)
    have u57 := l57 c (by omega)
    go_enter Trym.func31, Trym.ntmps31
    go_wp2
    go_ret
    exact ⟨by rw [HA.out]; rfl, rfl⟩
  · have HA : Hid _ := al_yes c (by omega)
    go_enter Trym.func31, Trym.ntmps31
    go_wp2
    go_ret
    exact ⟨by rw [HA.out]; rfl, rfl⟩
  · have HA : Hid _ := al_no c (by omega)
    have u57 := l57 c (by omega)
    have u90 := l90 c (by omega)
    go_enter Trym.func31, Trym.ntmps31
    go_wp2
    go_ret
    exact ⟨by rw [HA.out]; rfl, rfl⟩
  · have HA : Hid _ := al_yes c (by omega)
    go_enter Trym.func31, Trym.ntmps31
    go_wp2
    go_ret
    exact ⟨by rw [HA.out]; rfl, rfl⟩
  · have HA : Hid _ := al_no c (by omega)
    have u57 := l57 c (by omega)
    have u90 := l90 c (by omega)
    have u122 := l122 c (by omega)
    go_enter Trym.func31, Trym.ntmps31
    go_wp2
    go_ret
    exact ⟨by rw [HA.out]; rfl, rfl⟩

theorem good_first (s : ByteArray) (h : good s 0 = true) : al (cc s 0) = true := by
  have h := of_decide_eq_true h
  rcases h with h | h
  · exact h
  · exact absurd rfl h.1
theorem good_of_al (s : ByteArray) (k c : Nat) (hc : cc s k = c) (h : al c = true) : good s k = true := decide_eq_true (.inl (by rw [hc]; exact h))
theorem good_of_punct (s : ByteArray) (k c : Nat) (hc : cc s k = c) (hk : 1 ≤ k) (h : c = 45 ∨ c = 95 ∨ c = 46) : good s k = true := decide_eq_true (.inr ⟨by omega, by rw [hc]; exact h⟩)
theorem bad_of (s : ByteArray) (k c : Nat) (hc : cc s k = c) (ha : al c = false) (h : k = 0 ∨ ¬ (c = 45 ∨ c = 95 ∨ c = 46)) : good s k = false := by
  refine decide_eq_false ?_
  rw [hc, ha]
  rintro (h1 | h1)
  · cases h1
  · rcases h with h | h
    · exact h1.1 h
    · exact h h1.2
theorem good_step (s : ByteArray) (k : Nat) (hg : ∀ i, i < k → good s i = true) (h : good s k = true) : ∀ i, i < k + 1 → good s i = true := fun i hi => by
  by_cases e : i = k
  · rw [e]; exact h
  · exact hg i (by omega)

set_option maxHeartbeats 1600000 in
theorem model_any (s : ByteArray) (hs : s.size ≤ 1048576) (w : World) :
    Calls Trym.prog 13 #[.string s] w fun e w' => e = .returned (.bool (netB s)) ∧ w' = w := by
  by_cases h0 : s.size = 0
  · have HN : Hid _ := netB_empty s h0
    have dz := z0 s.size h0
    clear h0
    go_enter Trym.func13, Trym.ntmps13
    go_wp2_with fail
    go_ret
    exact ⟨by rw [HN.out]; rfl, rfl⟩
  have hz : 0 < s.size := by omega
  have H0 : Hid _ := h0
  have dz := z1 s.size h0
  clear h0
  cases ha : al (s[0]'hz).toNat
  · have HN : Hid _ := netB_bad s 0 hz (bad_of s 0 _ (cc_at s 0 hz) ha (.inl rfl))
    have HA : Hid _ := ha
    clear ha
    go_enter Trym.func13, Trym.ntmps13
    go_wp2_with fail
    refine (alnum_any (s[0]'hz).toNat (UInt8.toNat_lt _) _).mono ?_
    rintro e w' ⟨rfl, rfl⟩
    rw [HA.out]
    go_wp2_with fail
    go_ret
    exact ⟨by rw [HN.out]; rfl, rfl⟩
  · have HF : Hid (∀ i, i < 1 → good s i = true) := fun i hi => by
      obtain rfl : i = 0 := by omega
      exact good_of_al s 0 _ (cc_at s 0 hz) ha
    have HA : Hid _ := ha
    clear ha
    go_enter Trym.func13, Trym.ntmps13
    go_wp2_with fail
    refine (alnum_any (s[0]'hz).toNat (UInt8.toNat_lt _) _).mono ?_
    rintro e w' ⟨rfl, rfl⟩
    rw [HA.out]
    go_wp2_with fail
    go_loop [3] (fun i => ∃ k : Nat, 1 ≤ k ∧ k ≤ s.size ∧ i = .int .i64 k ∧ ∀ i, i < k → good s i = true) (fun i => s.size - (intOf i).toNat)
    case atStart => exact ⟨1, by omega, by omega, rfl, HF.out⟩
    case round =>
      obtain ⟨k, hk1, hk, rfl, hg⟩ := hrel
      have HG : Hid _ := hg
      clear hg HF HA
      by_cases hlt : k < s.size
      · have hcc := cc_at s k hlt
        go_wp2_with fail
        generalize hc : (s[k]'hlt).toNat = c at hcc ⊢
        have hc256 : c < 256 := by rw [← hc]; exact UInt8.toNat_lt _
        clear hc
        have HC : Hid (cc s k = c) := hcc
        clear hcc
        refine (alnum_any c hc256 _).mono ?_
        rintro e w' ⟨rfl, rfl⟩
        cases ha : al c
        · have HA : Hid _ := ha
          clear ha
          by_cases e45 : c = 45
          · have d45 := y45 c e45
            have HP : Hid _ := good_step s k HG.out (good_of_punct s k c HC.out hk1 (.inl e45))
            clear e45
            go_wp2_with fail
            go_round
            case rel => exact ⟨k + 1, by omega, by omega, by go_num, HP.out⟩
            case measure => simp [intOf]; omega
          by_cases e95 : c = 95
          · have d45 := n45 c e45
            have d95 := y95 c e95
            have HP : Hid _ := good_step s k HG.out (good_of_punct s k c HC.out hk1 (.inr (.inl e95)))
            clear e45 e95
            go_wp2_with fail
            go_round
            case rel => exact ⟨k + 1, by omega, by omega, by go_num, HP.out⟩
            case measure => simp [intOf]; omega
          by_cases e46 : c = 46
          · have d45 := n45 c e45
            have d95 := n95 c e95
            have d46 := y46 c e46
            have HP : Hid _ := good_step s k HG.out (good_of_punct s k c HC.out hk1 (.inr (.inr e46)))
            clear e45 e95 e46
            go_wp2_with fail
            go_round
            case rel => exact ⟨k + 1, by omega, by omega, by go_num, HP.out⟩
            case measure => simp [intOf]; omega
          have d45 := n45 c e45
          have d95 := n95 c e95
          have d46 := n46 c e46
          have HN : Hid _ := netB_bad s k hlt (bad_of s k c HC.out HA.out (.inr (by omega)))
          clear e45 e95 e46
          go_wp2_with fail
          go_ret
          exact ⟨by rw [HN.out]; rfl, rfl⟩
        · have HP : Hid _ := good_step s k HG.out (good_of_al s k c HC.out ha)
          clear ha
          go_wp2_with fail
          go_round
          case rel => exact ⟨k + 1, by omega, by omega, by go_num, HP.out⟩
          case measure => simp [intOf]; omega
      · have HN : Hid _ := netB_good s H0.out (fun i hi => HG.out i (by omega))
        go_wp2_with fail
        go_ret
        exact ⟨by rw [HN.out]; rfl, rfl⟩

set_option maxHeartbeats 400000 in
theorem zzname_any (s : ByteArray) (hs : s.size ≤ 1048576) (w : World) :
    Calls Trym.prog 12 #[.string s] w fun e w' => e = .returned (.bool (netB s)) ∧ ∃ pos, w' = w.iter s pos := by
  go_enter Trym.func12, Trym.ntmps12
  go_wp2_with fail
  refine (name_any s hs _).mono ?_
  rintro e w' ⟨rfl, pos, rfl⟩
  go_wp2_with fail
  go_ret
  exact ⟨rfl, pos, rfl⟩
end Go.Proofs.Qxb6000902aMods
