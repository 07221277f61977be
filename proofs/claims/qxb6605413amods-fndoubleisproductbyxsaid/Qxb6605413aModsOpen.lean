/- A [16]byte that came in: it is the array of some sixteen bytes. -/
import Derived.Test.Qxb6605413aModsBlock
import Derived.OpenShut
import Derived.ChangeOld
import Derived.Below
namespace Go.Proofs.Qxb6605413aMods
open Go.ChangeShapes Go.WideShapes Go.ChangeAt Go.RowKit

theorem cells29 : Trym.prog.cellsOf 29 = 16 := by kernel_rfl
theorem cells5 : Trym.prog.cellsOf 5 = 1 := by kernel_rfl

def byteOf : Value → Nat | .int _ n => n.toNat % 256 | _ => 0
theorem open_bl {H : Type} {enc : TypeId × Value → H} {W : World} {base : Nat} {sp : Nat → Bool} {v : Value} {d : DataW H} {p : List MemPlace}
    (hok : Value.okWide Trym.prog W .any base 29 v) (h : DataW.Trod enc Trym.prog W 0 sp true 29 v d p) : ∃ x : Nat → Nat, (∀ i, x i < 256) ∧ v = .agg (bl x) := by
  obtain ⟨cs, rfl, hsz, _⟩ : ∃ cs, v = .agg cs ∧ cs.size = Trym.prog.cellsOf 29 ∧ Row.okWide Trym.prog W .any base 29 cs := by
    simpa [Value.okWide, Trym.underlying29] using hok
  rw [cells29] at hsz
  obtain ⟨fuel, hf⟩ := h
  obtain ⟨xs, m, -, -, -, hxl, hxs⟩ := DataW.trod_array Trym.underlying29 hf
  rw [cells5] at hxs
  refine ⟨fun i => byteOf (cs.getD i undef), fun i => ?_, ?_⟩
  · show byteOf _ < 256
    cases cs.getD i undef <;> simp only [byteOf] <;> omega
  · congr 1
    apply Array.ext
    · rw [hsz, bl_size]
    · intro i h1 h2
      have hi : i < 16 := by omega
      have e := hxs i hi
      rw [List.getElem?_eq_getElem (by omega)] at e
      obtain ⟨n, hc, _, hw⟩ := DataW.trod_int Trym.underlying5 e
      have hl : i < cs.toList.length := by simpa using h1
      have hc' : cs[i] = .int .u8 n := by
        rw [Nat.mul_one, show (Value.agg cs).cells = cs from rfl, List.take_one, List.head?_drop, List.getElem?_eq_getElem hl] at hc
        simpa using hc
      have hb := bounds_u8 hw
      rw [hc']
      simp only [bl, Array.getElem_ofFn]
      rw [show cs.getD i undef = .int .u8 n by simp [h1, hc']]
      simp only [byteOf]
      congr 1
      omega
end Go.Proofs.Qxb6605413aMods
