/- isNetworkName AND its byte-wise model: what both answer, in plain words; the walks. -/
import Derived.Test.Qxb6000902aModsRows
import Derived.WalkKit
import Derived.ProofKit
import Derived.LoopTactic
import Derived.Laws.Strings
import Derived.Laws.RangeString
import Derived.Laws.RangeAny
namespace Go.Proofs.Qxb6000902aMods
open Go.ChangeShapes Go.WideShapes Go.ChangeAt Go.RowKit
set_option linter.unusedVariables false

/-! ### The plain answer -/
/-- A letter or a digit. -/
def al (c : Nat) : Bool := decide ((97 ≤ c ∧ c ≤ 122) ∨ (65 ≤ c ∧ c ≤ 90) ∨ (48 ≤ c ∧ c ≤ 57))
/-- The byte at i. -/
def cc (s : ByteArray) (i : Nat) : Nat := if h : i < s.size then (s[i]'h).toNat else 0
def good (s : ByteArray) (i : Nat) : Bool := decide (al (cc s i) = true ∨ (i ≠ 0 ∧ (cc s i = 45 ∨ cc s i = 95 ∨ cc s i = 46)))
def netB (s : ByteArray) : Bool := decide (s.size ≠ 0 ∧ ∀ i, i < s.size → good s i = true)
theorem netB_bad (s : ByteArray) (i : Nat) (hi : i < s.size) (h : good s i = false) : netB s = false := by
  unfold netB
  refine decide_eq_false fun hn => ?_
  rw [hn.2 i hi] at h
  cases h
theorem netB_empty (s : ByteArray) (h : s.size = 0) : netB s = false := by
  unfold netB
  exact decide_eq_false fun hn => hn.1 h
theorem netB_good (s : ByteArray) (h : s.size ≠ 0) (hg : ∀ i, i < s.size → good s i = true) : netB s = true := by
  unfold netB
  exact decide_eq_true ⟨h, hg⟩
theorem cc_at (s : ByteArray) (i : Nat) (h : i < s.size) : cc s i = (s[i]'h).toNat := by unfold cc; rw [dif_pos h]
theorem cc_lt (s : ByteArray) (i : Nat) : cc s i < 256 := by
  unfold cc
  split
  · exact UInt8.toNat_lt _
  · omega
theorem empty_size (s : ByteArray) : s.toList.isEmpty = decide (s.size = 0) := by
  rw [ByteArray.toList_eq]
  show s.data.toList.isEmpty = decide (s.data.size = 0)
  rw [← Array.length_toList]
  cases s.data.toList <;> simp

/-- What the rune at a place says of the byte there. -/
def Rune (s : ByteArray) (pos r wd : Nat) : Prop := (r = cc s pos ∧ wd = 1) ∨ (128 ≤ r ∧ 128 ≤ cc s pos ∧ 1 ≤ wd)
theorem rune_at (s : ByteArray) (pos : Nat) (h : pos < s.size) : Rune s pos (Utf8.decode s pos).1 (Utf8.decode s pos).2 := by
  by_cases ha : (s[pos]'h).toNat < 128
  · rw [decode_ascii s pos h ha]
    exact .inl ⟨(cc_at s pos h).symm, rfl⟩
  · have hd := decode_high s pos h (by omega)
    exact .inr ⟨hd.1, by rw [cc_at s pos h]; omega, hd.2⟩
theorem good_al (s : ByteArray) (pos r wd : Nat) (hr : Rune s pos r wd) (h : (97 ≤ r ∧ r ≤ 122) ∨ (65 ≤ r ∧ r ≤ 90) ∨ (48 ≤ r ∧ r ≤ 57)) : good s pos = true ∧ wd = 1 := by
  rcases hr with ⟨e, e1⟩ | ⟨e, _, _⟩
  · subst e
    exact ⟨decide_eq_true (.inl (decide_eq_true h)), e1⟩
  · omega
theorem good_punct (s : ByteArray) (pos r wd : Nat) (hr : Rune s pos r wd) (hp : pos ≠ 0) (h : r = 45 ∨ r = 95 ∨ r = 46) : good s pos = true ∧ wd = 1 := by
  rcases hr with ⟨e, e1⟩ | ⟨e, _, _⟩
  · subst e
    exact ⟨decide_eq_true (.inr ⟨hp, h⟩), e1⟩
  · omega
theorem good_no (s : ByteArray) (pos r wd : Nat) (hr : Rune s pos r wd) (h : ¬ ((97 ≤ r ∧ r ≤ 122) ∨ (65 ≤ r ∧ r ≤ 90) ∨ (48 ≤ r ∧ r ≤ 57))) (hp : pos = 0 ∨ ¬ (r = 45 ∨ r = 95 ∨ r = 46)) : good s pos = false := by
  unfold good al
  refine decide_eq_false ?_
  rintro (h1 | ⟨h1, h2⟩)
  · have h1 := of_decide_eq_true h1
    rcases hr with ⟨e, e1⟩ | ⟨e, _, _⟩ <;> omega
  · rcases hr with ⟨e, e1⟩ | ⟨e, _, _⟩ <;> omega

theorem classes (r : Nat) : r < 45 ∨ (45 ≤ r ∧ r ≤ 45) ∨ (46 ≤ r ∧ r ≤ 46) ∨ (47 ≤ r ∧ r ≤ 47) ∨ (48 ≤ r ∧ r ≤ 57) ∨ (58 ≤ r ∧ r ≤ 64) ∨ (65 ≤ r ∧ r ≤ 90) ∨ (91 ≤ r ∧ r ≤ 94) ∨ (95 ≤ r ∧ r ≤ 95) ∨ (96 ≤ r ∧ r ≤ 96) ∨ (97 ≤ r ∧ r ≤ 122) ∨ 123 ≤ r := by omega

theorem n45 (r : Nat) (h : r ≠ 45) : ((r : Int) != 45) = true := by simp; omega
theorem n95 (r : Nat) (h : r ≠ 95) : ((r : Int) != 95) = true := by simp; omega
theorem n46 (r : Nat) (h : r ≠ 46) : ((r : Int) != 46) = true := by simp; omega
theorem y45 (r : Nat) (h : r = 45) : ((r : Int) != 45) = false := by subst h; rfl
theorem y95 (r : Nat) (h : r = 95) : ((r : Int) != 95) = false := by subst h; rfl
theorem y46 (r : Nat) (h : r = 46) : ((r : Int) != 46) = false := by subst h; rfl
theorem z0 (n : Nat) (h : n = 0) : ((n : Int) == 0) = true := by subst h; rfl
theorem z1 (n : Nat) (h : ¬ n = 0) : ((n : Int) == 0) = false := by simp; omega
theorem l57 (r : Nat) (h : 57 < r) : decide ((r : Int) ≤ 57) = false := by simp; omega
theorem l90 (r : Nat) (h : 90 < r) : decide ((r : Int) ≤ 90) = false := by simp; omega
theorem l122 (r : Nat) (h : 122 < r) : decide ((r : Int) ≤ 122) = false := by simp; omega
theorem step_rel (s : ByteArray) (w : World) (pos wd : Nat) (hp : pos < s.size) (hg : ∀ i, i < pos → good s i = true) (h : good s pos = true ∧ wd = 1) :
    ∃ p, p ≤ s.size ∧ w.iter s (pos + wd) = w.iter s p ∧ ∀ i, i < p → good s i = true := by
  obtain ⟨h1, rfl⟩ := h
  refine ⟨pos + 1, by omega, rfl, fun i hi => ?_⟩
  by_cases e : i = pos
  · rw [e]; exact h1
  · exact hg i (by omega)

set_option maxRecDepth 100000 in
set_option maxHeartbeats 4000000 in
theorem name_any (s : ByteArray) (hs : s.size ≤ 1048576) (w : World) :
    Calls Trym.prog 30 #[.string s] w fun e w' => e = .returned (.bool (netB s)) ∧ ∃ pos, w' = w.iter s pos := by
  go_enter Trym.func30, Trym.ntmps30
  go_wp2_with fail
  go_loopw [3] (fun _ wr => ∃ pos : Nat, pos ≤ s.size ∧ wr = w.iter s pos ∧ ∀ i, i < pos → good s i = true) (fun _ wr => s.size - wr.iterPos w.heap.size)
  case atStart => exact ⟨0, Nat.zero_le _, rfl, fun i hi => by omega⟩
  case round =>
    obtain ⟨pos, hpos, rfl, hg⟩ := hrel
    have HG : Hid (∀ i, i < pos → good s i = true) := hg
    clear hg
    by_cases hp : pos < s.size
    · have hnx : ∀ ty, (Instr.next (.pointer (some ⟨w.heap.size, 0, none⟩)) true ty).run Trym.prog (w.iter s pos) = _ := fun ty => run_next_any w s pos ty hp
      have hru := rune_at s pos hp
      generalize hD : Utf8.decode s pos = D at hnx hru
      obtain ⟨r, wd⟩ := D
      clear hD
      have HR : Hid (Rune s pos r wd) := hru
      clear hru
      dsimp only at hnx
      rcases classes r with h | h | h | h | h | h | h | h | h | h | h | h
      · have d45 := n45 r (by omega)
        have d95 := n95 r (by omega)
        have d46 := n46 r (by omega)
        have hgn := netB_bad s pos hp (good_no s pos r wd HR.out (by omega) (by omega))
        have HN : Hid _ := hgn
        clear hgn
        by_cases hz : pos = 0
        · have dz := z0 pos hz
          clear hz
          go_wp2
          go_ret
          exact ⟨by rw [HN.out]; rfl, _, rfl⟩
        · have dz := z1 pos hz
          clear hz
          go_wp2
          go_ret
          exact ⟨by rw [HN.out]; rfl, _, rfl⟩
      · obtain ⟨h1, h2⟩ := h
        have d45 := y45 r (by omega)
        have d95 := n95 r (by omega)
        have d46 := n46 r (by omega)
        by_cases hz : pos = 0
        · have HN : Hid _ := netB_bad s pos hp (good_no s pos r wd HR.out (by omega) (.inl hz))
          have dz := z0 pos hz
          clear hz
          go_wp2
          go_ret
          exact ⟨by rw [HN.out]; rfl, _, rfl⟩
        · have HP : Hid _ := good_punct s pos r wd HR.out hz (by omega)
          have dz := z1 pos hz
          clear hz
          go_wp2
          go_roundw
          case rel => exact step_rel s w pos wd hp HG.out HP.out
          case measure => have := HP.out.2; simp; omega
      · obtain ⟨h1, h2⟩ := h
        have d46 := y46 r (by omega)
        have d45 := n45 r (by omega)
        have d95 := n95 r (by omega)
        by_cases hz : pos = 0
        · have HN : Hid _ := netB_bad s pos hp (good_no s pos r wd HR.out (by omega) (.inl hz))
          have dz := z0 pos hz
          clear hz
          go_wp2
          go_ret
          exact ⟨by rw [HN.out]; rfl, _, rfl⟩
        · have HP : Hid _ := good_punct s pos r wd HR.out hz (by omega)
          have dz := z1 pos hz
          clear hz
          go_wp2
          go_roundw
          case rel => exact step_rel s w pos wd hp HG.out HP.out
          case measure => have := HP.out.2; simp; omega
      · have d45 := n45 r (by omega)
        have d95 := n95 r (by omega)
        have d46 := n46 r (by omega)
        obtain ⟨h1, h2⟩ := h
        have hgn := netB_bad s pos hp (good_no s pos r wd HR.out (by omega) (by omega))
        have HN : Hid _ := hgn
        clear hgn
        by_cases hz : pos = 0
        · have dz := z0 pos hz
          clear hz
          go_wp2
          go_ret
          exact ⟨by rw [HN.out]; rfl, _, rfl⟩
        · have dz := z1 pos hz
          clear hz
          go_wp2
          go_ret
          exact ⟨by rw [HN.out]; rfl, _, rfl⟩
      · obtain ⟨h1, h2⟩ := h
        go_wp2
        have hga := good_al s pos r wd HR.out (by omega)
        go_roundw
        case rel => exact step_rel s w pos wd hp HG.out hga
        case measure => have := hga.2; simp; omega
      · have d45 := n45 r (by omega)
        have d95 := n95 r (by omega)
        have d46 := n46 r (by omega)
        obtain ⟨h1, h2⟩ := h
        have u57 := l57 r (by omega)
        have hgn := netB_bad s pos hp (good_no s pos r wd HR.out (by omega) (by omega))
        have HN : Hid _ := hgn
        clear hgn
        by_cases hz : pos = 0
        · have dz := z0 pos hz
          clear hz
          go_wp2
          go_ret
          exact ⟨by rw [HN.out]; rfl, _, rfl⟩
        · have dz := z1 pos hz
          clear hz
          go_wp2
          go_ret
          exact ⟨by rw [HN.out]; rfl, _, rfl⟩
      · obtain ⟨h1, h2⟩ := h
        go_wp2
        have hga := good_al s pos r wd HR.out (by omega)
        go_roundw
        case rel => exact step_rel s w pos wd hp HG.out hga
        case measure => have := hga.2; simp; omega
      · have d45 := n45 r (by omega)
        have d95 := n95 r (by omega)
        have d46 := n46 r (by omega)
        obtain ⟨h1, h2⟩ := h
        have u57 := l57 r (by omega)
        have u90 := l90 r (by omega)
        have hgn := netB_bad s pos hp (good_no s pos r wd HR.out (by omega) (by omega))
        have HN : Hid _ := hgn
        clear hgn
        by_cases hz : pos = 0
        · have dz := z0 pos hz
          clear hz
          go_wp2
          go_ret
          exact ⟨by rw [HN.out]; rfl, _, rfl⟩
        · have dz := z1 pos hz
          clear hz
          go_wp2
          go_ret
          exact ⟨by rw [HN.out]; rfl, _, rfl⟩
      · obtain ⟨h1, h2⟩ := h
        have d95 := y95 r (by omega)
        have d45 := n45 r (by omega)
        have d46 := n46 r (by omega)
        have u57 := l57 r (by omega)
        have u90 := l90 r (by omega)
        by_cases hz : pos = 0
        · have HN : Hid _ := netB_bad s pos hp (good_no s pos r wd HR.out (by omega) (.inl hz))
          have dz := z0 pos hz
          clear hz
          go_wp2
          go_ret
          exact ⟨by rw [HN.out]; rfl, _, rfl⟩
        · have HP : Hid _ := good_punct s pos r wd HR.out hz (by omega)
          have dz := z1 pos hz
          clear hz
          go_wp2
          go_roundw
          case rel => exact step_rel s w pos wd hp HG.out HP.out
          case measure => have := HP.out.2; simp; omega
      · have d45 := n45 r (by omega)
        have d95 := n95 r (by omega)
        have d46 := n46 r (by omega)
        obtain ⟨h1, h2⟩ := h
        have u57 := l57 r (by omega)
        have u90 := l90 r (by omega)
        have hgn := netB_bad s pos hp (good_no s pos r wd HR.out (by omega) (by omega))
        have HN : Hid _ := hgn
        clear hgn
        by_cases hz : pos = 0
        · have dz := z0 pos hz
          clear hz
          go_wp2
          go_ret
          exact ⟨by rw [HN.out]; rfl, _, rfl⟩
        · have dz := z1 pos hz
          clear hz
          go_wp2
          go_ret
          exact ⟨by rw [HN.out]; rfl, _, rfl⟩
      · obtain ⟨h1, h2⟩ := h
        go_wp2
        have hga := good_al s pos r wd HR.out (by omega)
        go_roundw
        case rel => exact step_rel s w pos wd hp HG.out hga
        case measure => have := hga.2; simp; omega
      · have d45 := n45 r (by omega)
        have d95 := n95 r (by omega)
        have d46 := n46 r (by omega)
        have u57 := l57 r (by omega)
        have u90 := l90 r (by omega)
        have u122 := l122 r (by omega)
        have hgn := netB_bad s pos hp (good_no s pos r wd HR.out (by omega) (by omega))
        have HN : Hid _ := hgn
        clear hgn
        by_cases hz : pos = 0
        · have dz := z0 pos hz
          clear hz
          go_wp2
          go_ret
          exact ⟨by rw [HN.out]; rfl, _, rfl⟩
        · have dz := z1 pos hz
          clear hz
          go_wp2
          go_ret
          exact ⟨by rw [HN.out]; rfl, _, rfl⟩
    · have hnx : ∀ ty, (Instr.next (.pointer (some ⟨w.heap.size, 0, none⟩)) true ty).run Trym.prog (w.iter s pos) = _ := fun ty => run_next_end w s pos ty hp
      go_wp2
      go_ret
      refine ⟨?_, _, rfl⟩
      have he : (!s.toList.isEmpty) = netB s := by
        rw [empty_size]
        by_cases h0 : s.size = 0
        · rw [netB_empty s h0, decide_eq_true h0]; rfl
        · rw [netB_good s h0 (fun i hi => HG.out i (by omega)), decide_eq_false h0]; rfl
      exact congrArg (fun b => Ending.returned (Value.bool b)) he
end Go.Proofs.Qxb6000902aMods
