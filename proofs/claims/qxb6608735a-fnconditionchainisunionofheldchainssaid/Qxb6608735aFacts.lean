import Derived.Test.Qxb6608735aRows
import Derived.WalkKit
import Derived.ProofKit
namespace Go.Proofs.Qxb6608735a
open Go.ChangeShapes Go.WideShapes Go.ChangeAt Go.RowKit
set_option maxRecDepth 100000

/-- the line of the cut, sign by sign -/
def lineCodes : List Nat := [
  104, 97, 114, 110, 101, 115, 115, 32, 97, 102, 49, 57, 100, 49, 57, 48, 98, 56, 102, 51, 50, 52, 102, 57, 50, 55, 98, 101, 50, 102, 52, 99, 52, 56, 102, 57, 101, 56, 48, 101,
  50, 54, 54, 54, 98, 51, 53, 56, 53, 52, 53, 55, 100, 98, 50, 98, 99, 98, 99, 55, 57, 100, 56, 52, 99, 54, 101, 52, 55, 49, 51, 48, 32, 99, 117, 116, 32, 97, 116, 32,
  101, 120, 97, 109, 112, 108, 101, 46, 99, 111, 109, 47, 100, 111, 109, 97, 105, 110, 115, 45, 105, 110, 45, 117, 110, 105, 115, 111, 110, 47, 100, 111, 109, 97, 105, 110, 115, 45, 105, 110,
  45, 117, 110, 105, 115, 111, 110, 47, 122, 122, 108, 97, 119, 115, 95, 112, 107, 103, 95, 99, 111, 97, 108, 105, 116, 105, 111, 110, 95, 98, 49, 46, 70, 110, 73, 100, 115, 73, 110, 118,
  101, 114, 116, 84, 111, 75, 101, 121, 80, 111, 115, 105, 116, 105, 111, 110, 115, 32, 101, 120, 97, 109, 112, 108, 101, 46, 99, 111, 109, 47, 100, 111, 109, 97, 105, 110, 115, 45, 105, 110,
  45, 117, 110, 105, 115, 111, 110, 47, 100, 111, 109, 97, 105, 110, 115, 45, 105, 110, 45, 117, 110, 105, 115, 111, 110, 47, 122, 122, 108, 97, 119, 115, 95, 112, 107, 103, 95, 99, 111, 97,
  108, 105, 116, 105, 111, 110, 95, 98, 49, 46, 70, 110, 73, 100, 115, 73, 103, 110, 111, 114, 101, 82, 111, 117, 110, 100, 65, 110, 100, 76, 105, 115, 116, 65, 108, 108, 73, 68, 115, 32,
  101, 120, 97, 109, 112, 108, 101, 46, 99, 111, 109, 47, 100, 111, 109, 97, 105, 110, 115, 45, 105, 110, 45, 117, 110, 105, 115, 111, 110, 47, 100, 111, 109, 97, 105, 110, 115, 45, 105, 110,
  45, 117, 110, 105, 115, 111, 110, 47, 122, 122, 108, 97, 119, 115, 95, 112, 107, 103, 95, 99, 111, 97, 108, 105, 116, 105, 111, 110, 95, 98, 49, 46, 70, 110, 67, 111, 110, 100, 105, 116,
  105, 111, 110, 67, 104, 97, 105, 110, 73, 115, 85, 110, 105, 111, 110, 79, 102, 72, 101, 108, 100, 67, 104, 97, 105, 110, 115, 32, 101, 120, 97, 109, 112, 108, 101, 46, 99, 111, 109, 47,
  100, 111, 109, 97, 105, 110, 115, 45, 105, 110, 45, 117, 110, 105, 115, 111, 110, 47, 100, 111, 109, 97, 105, 110, 115, 45, 105, 110, 45, 117, 110, 105, 115, 111, 110, 47, 122, 122, 108, 97,
  119, 115, 95, 112, 107, 103, 95, 99, 111, 97, 108, 105, 116, 105, 111, 110, 95, 98, 49, 46, 70, 110, 67, 111, 110, 100, 105, 116, 105, 111, 110, 67, 104, 97, 105, 110, 67, 117, 116, 65,
  110, 100, 78, 97, 109, 101, 80, 97, 116, 104, 65, 103, 114, 101, 101, 32, 101, 120, 97, 109, 112, 108, 101, 46, 99, 111, 109, 47, 100, 111, 109, 97, 105, 110, 115, 45, 105, 110, 45, 117,
  110, 105, 115, 111, 110, 47, 100, 111, 109, 97, 105, 110, 115, 45, 105, 110, 45, 117, 110, 105, 115, 111, 110, 47, 122, 122, 108, 97, 119, 115, 95, 112, 107, 103, 95, 99, 111, 97, 108, 105,
  116, 105, 111, 110, 95, 98, 49, 46, 70, 110, 86, 105, 97, 67, 111, 110, 100, 105, 116, 105, 111, 110, 78, 97, 109, 101, 115, 85, 110, 105, 111, 110, 65, 110, 100, 78, 97, 109, 101, 80,
  97, 116, 104, 65, 103, 114, 101, 101, 115, 32, 101, 120, 97, 109, 112, 108, 101, 46, 99, 111, 109, 47, 100, 111, 109, 97, 105, 110, 115, 45, 105, 110, 45, 117, 110, 105, 115, 111, 110, 47,
  100, 111, 109, 97, 105, 110, 115, 45, 105, 110, 45, 117, 110, 105, 115, 111, 110, 47, 122, 122, 108, 97, 119, 115, 95, 112, 107, 103, 95, 99, 111, 97, 108, 105, 116, 105, 111, 110, 95, 98,
  49, 46, 70, 110, 86, 105, 97, 67, 111, 110, 100, 105, 116, 105, 111, 110, 79, 114, 100, 101, 114, 65, 110, 100, 82, 101, 112, 101, 97, 116, 70, 114, 101, 101, 32, 101, 120, 97, 109, 112,
  108, 101, 46, 99, 111, 109, 47, 100, 111, 109, 97, 105, 110, 115, 45, 105, 110, 45, 117, 110, 105, 115, 111, 110, 47, 100, 111, 109, 97, 105, 110, 115, 45, 105, 110, 45, 117, 110, 105, 115,
  111, 110, 47, 122, 122, 108, 97, 119, 115, 95, 112, 107, 103, 95, 99, 111, 97, 108, 105, 116, 105, 111, 110, 95, 98, 49, 46, 70, 110, 75, 101, 112, 116, 72, 111, 108, 100, 105, 110, 103,
  65, 110, 115, 119, 101, 114, 115, 66, 121, 78, 97, 109, 101, 32, 101, 120, 97, 109, 112, 108, 101, 46, 99, 111, 109, 47, 100, 111, 109, 97, 105, 110, 115, 45, 105, 110, 45, 117, 110, 105,
  115, 111, 110, 47, 100, 111, 109, 97, 105, 110, 115, 45, 105, 110, 45, 117, 110, 105, 115, 111, 110, 47, 122, 122, 108, 97, 119, 115, 95, 112, 107, 103, 95, 99, 111, 97, 108, 105, 116, 105,
  111, 110, 95, 98, 49, 46, 70, 110, 75, 101, 112, 116, 72, 111, 108, 100, 105, 110, 103, 72, 111, 108, 100, 115, 69, 120, 97, 99, 116, 108, 121, 73, 116, 115, 65, 116, 111, 109, 115]
theorem line_is : Try.prog.initOrder = String.ofList (lineCodes.map Char.ofNat) := by kernel_rfl
theorem line_list : Try.prog.initOrder.toList = lineCodes.map Char.ofNat := by rw [line_is, String.toList_ofList]
/-- the line's words behind the main word -/
def lineWords : List (List Char) := behindMainWord (wordsSigns (lineCodes.map Char.ofNat))
theorem words_is : behindMainWord (wordsSigns Try.prog.initOrder.toList) = lineWords := by rw [line_list]; rfl
theorem me1 : lineWords.head? = some "cut".toList := by kernel_rfl
theorem me2 : Try.prog.laysLater = false := by kernel_rfl
theorem me3 : Try.prog.bearsReflect = false := by kernel_rfl
theorem me4 : Try.prog.doorFits [] = true := by kernel_rfl
theorem me5 (rest : List (List Char)) : stripLifts liftWords ("cut".toList :: rest) = ([], "cut".toList :: rest) := by kernel_rfl
theorem words_cons : ∃ rest, lineWords = "cut".toList :: rest := by
  have h := me1
  cases hw : lineWords with
  | nil => rw [hw] at h; cases h
  | cons c rest =>
    rw [hw] at h
    simp only [List.head?_cons, Option.some.injEq] at h
    subst h
    exact ⟨rest, rfl⟩
theorem enter_of (P : Program) (R : List (List Char)) (h : behindMainWord (wordsSigns P.initOrder.toList) = "cut".toList :: R) (h2 : P.laysLater = false) (h3 : P.bearsReflect = false) (h4 : P.doorFits [] = true) : P.mayEnter = true := by
  unfold Program.mayEnter
  rw [h]
  simp only [me5, h2, h3, h4]
  simp
theorem lifts_of (P : Program) (R : List (List Char)) (h : behindMainWord (wordsSigns P.initOrder.toList) = "cut".toList :: R) : P.liftsFinal = false := by
  unfold Program.liftsFinal Program.headLifts
  rw [h]
  simp only [me5]
  simp
theorem make_of (P : Program) (R : List (List Char)) (h : behindMainWord (wordsSigns P.initOrder.toList) = "cut".toList :: R) : P.make = some .cut := by
  unfold Program.make
  rw [h]
  simp
theorem may_enter : Try.prog.mayEnter = true := by
  obtain ⟨R, hR⟩ := words_cons
  exact enter_of Try.prog R (words_is.trans hR) me2 me3 me4
theorem lifts_final : Try.prog.liftsFinal = false := by
  obtain ⟨R, hR⟩ := words_cons
  exact lifts_of Try.prog R (words_is.trans hR)
theorem make_is : Try.prog.make = some .cut := by
  obtain ⟨R, hR⟩ := words_cons
  exact make_of Try.prog R (words_is.trans hR)
theorem and2 {a b : Bool} (h1 : a = true) (h2 : b = true) : (a && b) = true := by rw [h1, h2]; rfl
end Go.Proofs.Qxb6608735a
