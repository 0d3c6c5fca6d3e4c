/-
  Three closed facts on the loaded program that the kernel reckons dearly by the plain road (each goes over the head's long string of roots): proved once, by way of the string's own list of signs.
-/
import Derived.Test.Qxb6600191aRows
import Derived.JoinedOf
import Derived.KernelRfl
namespace Go.Proofs.Qxb6600191a.Facts
open Go

/-- the head's signs, as numbers -/
def headCodes : List Nat := [
  104, 97, 114, 110, 101, 115, 115, 32, 56, 98, 99, 57, 51, 101, 49, 53, 55, 55, 55, 48, 48, 102, 55, 52, 48, 99, 101, 52, 57, 51, 99, 49, 101, 50, 102, 98, 56, 48, 50, 54,
  56, 50, 101, 97, 57, 55, 102, 100, 100, 49, 98, 98, 55, 54, 102, 51, 100, 97, 97, 49, 53, 57, 49, 49, 48, 53, 101, 49, 57, 53, 49, 51, 32, 99, 117, 116, 32, 97, 116, 32,
  101, 120, 97, 109, 112, 108, 101, 46, 99, 111, 109, 47, 98, 97, 105, 108, 105, 119, 105, 99, 107, 47, 98, 97, 105, 108, 105, 119, 105, 99, 107, 47, 122, 122, 108, 97, 119, 115, 95, 112,
  111, 108, 105, 99, 121, 95, 98, 49, 46, 70, 110, 83, 112, 108, 105, 116, 71, 108, 111, 98, 83, 112, 101, 99, 32, 101, 120, 97, 109, 112, 108, 101, 46, 99, 111, 109, 47, 98, 97, 105,
  108, 105, 119, 105, 99, 107, 47, 98, 97, 105, 108, 105, 119, 105, 99, 107, 47, 122, 122, 108, 97, 119, 115, 95, 112, 111, 108, 105, 99, 121, 95, 98, 49, 46, 70, 110, 83, 112, 108, 105,
  116, 71, 108, 111, 98, 80, 97, 114, 116, 115, 32, 101, 120, 97, 109, 112, 108, 101, 46, 99, 111, 109, 47, 98, 97, 105, 108, 105, 119, 105, 99, 107, 47, 98, 97, 105, 108, 105, 119, 105,
  99, 107, 47, 122, 122, 108, 97, 119, 115, 95, 112, 111, 108, 105, 99, 121, 95, 98, 49, 46, 70, 110, 83, 112, 108, 105, 116, 71, 108, 111, 98, 69, 120, 116, 101, 110, 100, 32, 101, 120,
  97, 109, 112, 108, 101, 46, 99, 111, 109, 47, 98, 97, 105, 108, 105, 119, 105, 99, 107, 47, 98, 97, 105, 108, 105, 119, 105, 99, 107, 47, 122, 122, 108, 97, 119, 115, 95, 112, 111, 108,
  105, 99, 121, 95, 98, 49, 46, 70, 110, 80, 108, 97, 105, 110, 78, 97, 109, 101, 115, 83, 112, 101, 99, 32, 101, 120, 97, 109, 112, 108, 101, 46, 99, 111, 109, 47, 98, 97, 105, 108,
  105, 119, 105, 99, 107, 47, 98, 97, 105, 108, 105, 119, 105, 99, 107, 47, 122, 122, 108, 97, 119, 115, 95, 112, 111, 108, 105, 99, 121, 95, 98, 49, 46, 70, 110, 80, 108, 97, 105, 110,
  78, 97, 109, 101, 115, 80, 114, 101, 102, 105, 120, 80, 108, 97, 105, 110, 32, 101, 120, 97, 109, 112, 108, 101, 46, 99, 111, 109, 47, 98, 97, 105, 108, 105, 119, 105, 99, 107, 47, 98,
  97, 105, 108, 105, 119, 105, 99, 107, 47, 122, 122, 108, 97, 119, 115, 95, 112, 111, 108, 105, 99, 121, 95, 98, 49, 46, 70, 110, 80, 108, 97, 105, 110, 78, 97, 109, 101, 115, 68, 101,
  99, 105, 100, 101, 100, 69, 97, 114, 108, 121, 32, 101, 120, 97, 109, 112, 108, 101, 46, 99, 111, 109, 47, 98, 97, 105, 108, 105, 119, 105, 99, 107, 47, 98, 97, 105, 108, 105, 119, 105,
  99, 107, 47, 122, 122, 108, 97, 119, 115, 95, 112, 111, 108, 105, 99, 121, 95, 98, 49, 46, 70, 110, 77, 97, 121, 67, 108, 105, 109, 98, 83, 112, 101, 99, 32, 101, 120, 97, 109, 112,
  108, 101, 46, 99, 111, 109, 47, 98, 97, 105, 108, 105, 119, 105, 99, 107, 47, 98, 97, 105, 108, 105, 119, 105, 99, 107, 47, 122, 122, 108, 97, 119, 115, 95, 112, 111, 108, 105, 99, 121,
  95, 98, 49, 46, 70, 110, 77, 97, 121, 67, 108, 105, 109, 98, 68, 111, 116, 68, 111, 116, 83, 101, 103, 109, 101, 110, 116, 32, 101, 120, 97, 109, 112, 108, 101, 46, 99, 111, 109, 47,
  98, 97, 105, 108, 105, 119, 105, 99, 107, 47, 98, 97, 105, 108, 105, 119, 105, 99, 107, 47, 122, 122, 108, 97, 119, 115, 95, 112, 111, 108, 105, 99, 121, 95, 98, 49, 46, 70, 110, 77,
  97, 121, 67, 108, 105, 109, 98, 69, 120, 116, 101, 110, 100]

theorem headsBytes : Try.prog.initOrder.toByteArray = List.utf8Encode (headCodes.map Char.ofNat) := by kernel_rfl

theorem heads : Try.prog.initOrder = String.ofList (headCodes.map Char.ofNat) := String.toByteArray_inj.1 (headsBytes.trans String.toByteArray_ofList.symm)

theorem headsList : Try.prog.initOrder.toList = headCodes.map Char.ofNat := by rw [heads, String.toList_ofList]


theorem make_of {P : Program} {r : List (List Char)} (h : behindMainWord (wordsSigns P.initOrder.toList) = ['c', 'u', 't'] :: r) : P.make = some .cut := by
  unfold Program.make; rw [h]; rfl
theorem lifts_of {P : Program} {r : List (List Char)} (h : behindMainWord (wordsSigns P.initOrder.toList) = ['c', 'u', 't'] :: r) : P.headLifts = [] := by
  unfold Program.headLifts; rw [h]; rfl
theorem final_of {P : Program} {r : List (List Char)} (h : behindMainWord (wordsSigns P.initOrder.toList) = ['c', 'u', 't'] :: r) : P.liftsFinal = false := by
  unfold Program.liftsFinal; rw [lifts_of h, h]; rfl
theorem strip_of (r : List (List Char)) : stripLifts liftWords (['c', 'u', 't'] :: r) = ([], ['c', 'u', 't'] :: r) := by rfl
theorem enter_of {P : Program} {r : List (List Char)} (h : behindMainWord (wordsSigns P.initOrder.toList) = ['c', 'u', 't'] :: r)
    (h1 : P.laysLater = false) (h2 : P.bearsReflect = false) (h3 : P.doorFits [] = true) : P.mayEnter = true := by
  unfold Program.mayEnter; rw [h]; simp only [strip_of, h1, h2, h3]; rfl
theorem words : ∃ r, behindMainWord (wordsSigns Try.prog.initOrder.toList) = ['c', 'u', 't'] :: r := by
  rw [headsList]
  exact ⟨(behindMainWord (wordsSigns (headCodes.map Char.ofNat))).tail, by kernel_rfl⟩
theorem laysLater_ok : Try.prog.laysLater = false := by kernel_rfl
theorem bearsReflect_ok : Try.prog.bearsReflect = false := by kernel_rfl
theorem doorFits_ok : Try.prog.doorFits [] = true := by kernel_rfl
theorem mayEnter_ok : Try.prog.mayEnter = true := words.elim fun _ h => enter_of h laysLater_ok bearsReflect_ok doorFits_ok
theorem liftsFinal_ok : Try.prog.liftsFinal = false := words.elim fun _ h => final_of h
theorem make_ok : Try.prog.make = some .cut := words.elim fun _ h => make_of h
end Go.Proofs.Qxb6600191a.Facts
