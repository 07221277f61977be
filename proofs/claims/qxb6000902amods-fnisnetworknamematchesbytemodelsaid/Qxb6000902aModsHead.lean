/- The translation's head, letter by letter: so that the kernel need not take the string apart (String.toList of some 900 letters costs it ten gigabytes). -/
import Derived.Test.Qxb6000902aModsRows
import Derived.JoinedOf
import Derived.KernelRfl
namespace Go.Proofs.Qxb6000902aMods

def headSigns : List Nat := [
  104, 97, 114, 110, 101, 115, 115, 32, 99, 48, 48, 57, 54, 53, 98, 102, 97, 57, 97, 99, 53, 102, 101, 102, 56, 100, 50, 102, 49, 102, 100, 52, 52, 54, 48, 48, 52, 50, 52, 49, 57, 52, 52, 54, 52, 51, 49, 53, 48, 53, 101, 
  50, 51, 52, 56, 53, 99, 51, 50, 101, 55, 56, 98, 53, 98, 99, 52, 51, 50, 57, 102, 101, 32, 112, 117, 98, 108, 105, 99, 115, 117, 109, 115, 32, 99, 117, 116, 32, 97, 116, 32, 101, 120, 97, 109, 112, 108, 101, 46, 99, 111, 
  109, 47, 115, 108, 105, 99, 101, 119, 114, 105, 103, 104, 116, 47, 115, 108, 105, 99, 101, 119, 114, 105, 103, 104, 116, 47, 122, 122, 108, 97, 119, 115, 95, 112, 107, 103, 95, 97, 100, 100, 114, 101, 115, 115, 101, 115, 
  95, 98, 49, 46, 70, 110, 73, 115, 78, 101, 116, 119, 111, 114, 107, 78, 97, 109, 101, 77, 97, 116, 99, 104, 101, 115, 66, 121, 116, 101, 77, 111, 100, 101, 108, 32, 101, 120, 97, 109, 112, 108, 101, 46, 99, 111, 109, 47, 
  115, 108, 105, 99, 101, 119, 114, 105, 103, 104, 116, 47, 115, 108, 105, 99, 101, 119, 114, 105, 103, 104, 116, 47, 122, 122, 108, 97, 119, 115, 95, 112, 107, 103, 95, 97, 100, 100, 114, 101, 115, 115, 101, 115, 95, 98, 
  49, 46, 70, 110, 73, 115, 78, 101, 116, 119, 111, 114, 107, 78, 97, 109, 101, 74, 111, 105, 110, 115, 65, 110, 100, 82, 101, 102, 117, 115, 101, 115, 76, 101, 97, 100, 105, 110, 103, 80, 117, 110, 99, 116, 32, 101, 120, 
  97, 109, 112, 108, 101, 46, 99, 111, 109, 47, 115, 108, 105, 99, 101, 119, 114, 105, 103, 104, 116, 47, 115, 108, 105, 99, 101, 119, 114, 105, 103, 104, 116, 47, 122, 122, 108, 97, 119, 115, 95, 112, 107, 103, 95, 97, 
  100, 100, 114, 101, 115, 115, 101, 115, 95, 98, 49, 46, 70, 110, 73, 115, 78, 101, 116, 119, 111, 114, 107, 78, 97, 109, 101, 80, 114, 101, 102, 105, 120, 67, 108, 111, 115, 101, 100, 32, 101, 120, 97, 109, 112, 108, 101, 
  46, 99, 111, 109, 47, 115, 108, 105, 99, 101, 119, 114, 105, 103, 104, 116, 47, 115, 108, 105, 99, 101, 119, 114, 105, 103, 104, 116, 47, 122, 122, 108, 97, 119, 115, 95, 112, 107, 103, 95, 97, 100, 100, 114, 101, 115, 
  115, 101, 115, 95, 98, 49, 46, 70, 110, 75, 105, 110, 100, 79, 102, 78, 97, 109, 101, 115, 69, 97, 99, 104, 74, 83, 79, 78, 75, 105, 110, 100, 32, 101, 120, 97, 109, 112, 108, 101, 46, 99, 111, 109, 47, 115, 108, 105, 99, 
  101, 119, 114, 105, 103, 104, 116, 47, 115, 108, 105, 99, 101, 119, 114, 105, 103, 104, 116, 47, 122, 122, 108, 97, 119, 115, 95, 112, 107, 103, 95, 97, 100, 100, 114, 101, 115, 115, 101, 115, 95, 98, 49, 46, 70, 110, 75, 
  105, 110, 100, 79, 102, 73, 100, 101, 109, 112, 111, 116, 101, 110, 116, 32, 101, 120, 97, 109, 112, 108, 101, 46, 99, 111, 109, 47, 115, 108, 105, 99, 101, 119, 114, 105, 103, 104, 116, 47, 115, 108, 105, 99, 101, 119, 
  114, 105, 103, 104, 116, 47, 122, 122, 108, 97, 119, 115, 95, 112, 107, 103, 95, 97, 100, 100, 114, 101, 115, 115, 101, 115, 95, 98, 49, 46, 70, 110, 75, 105, 110, 100, 79, 102, 76, 101, 97, 118, 101, 115, 79, 116, 104, 
  101, 114, 84, 101, 120, 116, 65, 108, 111, 110, 101, 32, 101, 120, 97, 109, 112, 108, 101, 46, 99, 111, 109, 47, 115, 108, 105, 99, 101, 119, 114, 105, 103, 104, 116, 47, 115, 108, 105, 99, 101, 119, 114, 105, 103, 104, 
  116, 47, 122, 122, 108, 97, 119, 115, 95, 112, 107, 103, 95, 97, 100, 100, 114, 101, 115, 115, 101, 115, 95, 98, 49, 46, 70, 110, 83, 111, 117, 114, 99, 101, 83, 116, 114, 105, 110, 103, 82, 111, 117, 110, 100, 84, 114, 
  105, 112, 115, 32, 101, 120, 97, 109, 112, 108, 101, 46, 99, 111, 109, 47, 115, 108, 105, 99, 101, 119, 114, 105, 103, 104, 116, 47, 115, 108, 105, 99, 101, 119, 114, 105, 103, 104, 116, 47, 122, 122, 108, 97, 119, 115, 
  95, 112, 107, 103, 95, 97, 100, 100, 114, 101, 115, 115, 101, 115, 95, 98, 49, 46, 70, 110, 83, 111, 117, 114, 99, 101, 83, 116, 114, 105, 110, 103, 73, 110, 106, 101, 99, 116, 105, 118, 101]
def headChars : List Char := headSigns.map Char.ofNat
theorem head_eq : Trym.prog.initOrder = String.ofList headChars := by kernel_rfl
theorem head_list : Trym.prog.initOrder.toList = headChars := by rw [head_eq, String.toList_ofList]
def headRest : List (List Char) := (behindMainWord (wordsSigns headChars)).drop 2
theorem words_eq : behindMainWord (wordsSigns Trym.prog.initOrder.toList) = "publicsums".toList :: "cut".toList :: headRest := by
  rw [head_list]
  kernel_rfl
theorem strip_eq : stripLifts liftWords ("publicsums".toList :: "cut".toList :: headRest) = (["publicsums"], "cut".toList :: headRest) := by kernel_rfl

/-! Of any program whose head reads so. -/
theorem headLifts_of (P : Program) (r : List (List Char)) (h : behindMainWord (wordsSigns P.initOrder.toList) = "publicsums".toList :: "cut".toList :: r)
    (hs : stripLifts liftWords ("publicsums".toList :: "cut".toList :: r) = (["publicsums"], "cut".toList :: r)) : P.headLifts = ["publicsums"] := by
  unfold Program.headLifts
  rw [h, hs]
  simp
theorem make_of (P : Program) (r : List (List Char)) (h : behindMainWord (wordsSigns P.initOrder.toList) = "publicsums".toList :: "cut".toList :: r) (hl : P.headLifts = ["publicsums"]) :
    P.make = some (.lifted ["publicsums"]) := by
  unfold Program.make
  rw [h, hl]
  rfl
theorem liftsFinal_of (P : Program) (r : List (List Char)) (h : behindMainWord (wordsSigns P.initOrder.toList) = "publicsums".toList :: "cut".toList :: r) (hl : P.headLifts = ["publicsums"]) :
    P.liftsFinal = false := by
  unfold Program.liftsFinal
  rw [h, hl]
  rfl
theorem mayEnter_of (P : Program) (r : List (List Char)) (h : behindMainWord (wordsSigns P.initOrder.toList) = "publicsums".toList :: "cut".toList :: r)
    (hs : stripLifts liftWords ("publicsums".toList :: "cut".toList :: r) = (["publicsums"], "cut".toList :: r))
    (h1 : P.laysLater = false) (h2 : P.bearsReflect = false) (h3 : P.doorFits ["publicsums"] = true) : P.mayEnter = true := by
  unfold Program.mayEnter
  rw [h]
  simp only [hs, h1, h2, h3]
  simp

theorem headLifts_eq : Trym.prog.headLifts = ["publicsums"] := headLifts_of _ _ words_eq strip_eq
theorem mayEnter_true : Trym.prog.mayEnter = true :=
  mayEnter_of _ _ words_eq strip_eq (by kernel_rfl) (by kernel_rfl) (by kernel_rfl)
theorem liftsFinal_false : Trym.prog.liftsFinal = false := liftsFinal_of _ _ words_eq headLifts_eq
theorem make_eq : Trym.prog.make = some (.lifted ["publicsums"]) := make_of _ _ words_eq headLifts_eq
end Go.Proofs.Qxb6000902aMods
