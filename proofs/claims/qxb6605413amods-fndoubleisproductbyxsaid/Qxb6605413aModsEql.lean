/- Two equal blocks compare equal. -/
import Derived.Test.Qxb6605413aModsBlock
import Derived.Stop.BytesEq
namespace Go.Proofs.Qxb6605413aMods
open Go.RowKit

def bytesOf (x : Nat → Nat) : List UInt8 := (List.range 16).map fun i => UInt8.ofNat (x i)
theorem bl_bytes (x : Nat → Nat) (hx : ∀ i, x i < 256) : bl x = ((bytesOf x).map Extern.Stop.cell).toArray := by
  apply Array.ext
  · simp [bl, bytesOf]
  · intro i h1 h2
    have hi := hx i
    simp [bl, bytesOf, Extern.Stop.cell]
    omega
theorem run_eql_bl (x : Nat → Nat) (hx : ∀ i, x i < 256) (w : World) :
    (binOp .eql 29 (.agg (bl x)) (.agg (bl x))).run Trym.prog w = .ok (.bool true) w := by
  rw [bl_bytes x hx, run_eql_bytes w 29 5 16 Trym.underlying29 Trym.underlying5 Trym.sizeOf5 (bytesOf x) (bytesOf x) (by simp [bytesOf]) (by simp [bytesOf])]
  simp
end Go.Proofs.Qxb6605413aMods
