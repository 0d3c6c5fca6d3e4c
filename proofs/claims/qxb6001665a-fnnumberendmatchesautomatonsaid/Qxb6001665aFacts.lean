/-
  Three closed facts on the loaded program that the kernel reckons dearly by the plain road (each goes over the head's long string of roots): proved once, by way of the string's own list of signs.
-/
import Derived.Test.Qxb6001665aRows
import Derived.JoinedOf
import Derived.KernelRfl
namespace Go.Proofs.Qxb6001665a.Facts
open Go

/-- the head's signs, as numbers -/
def headCodes : List Nat := [
  104, 97, 114, 110, 101, 115, 115, 32, 100, 99, 52, 53, 48, 98, 51, 100, 56, 102, 53, 98, 50, 97, 48, 54, 48, 52, 57, 48, 101, 102, 102, 100, 56, 101, 56, 57, 100, 55, 52, 55,
  57, 51, 50, 54, 98, 101, 57, 97, 52, 56, 98, 97, 57, 97, 48, 50, 53, 48, 53, 50, 56, 49, 49, 57, 48, 55, 55, 102, 50, 56, 98, 55, 32, 99, 117, 116, 32, 97, 116, 32,
  101, 120, 97, 109, 112, 108, 101, 46, 99, 111, 109, 47, 102, 101, 114, 114, 117, 108, 101, 47, 102, 101, 114, 114, 117, 108, 101, 47, 122, 122, 108, 97, 119, 115, 95, 114, 101, 100, 97, 99,
  116, 95, 103, 49, 46, 70, 110, 66, 97, 99, 107, 115, 108, 97, 115, 104, 101, 115, 67, 111, 117, 110, 116, 115, 65, 100, 100, 101, 100, 82, 117, 110, 32, 101, 120, 97, 109, 112, 108, 101,
  46, 99, 111, 109, 47, 102, 101, 114, 114, 117, 108, 101, 47, 102, 101, 114, 114, 117, 108, 101, 47, 122, 122, 108, 97, 119, 115, 95, 114, 101, 100, 97, 99, 116, 95, 103, 49, 46, 70, 110,
  65, 100, 100, 69, 110, 100, 75, 101, 101, 112, 115, 69, 97, 99, 104, 79, 110, 99, 101, 73, 110, 70, 105, 114, 115, 116, 79, 114, 100, 101, 114, 32, 101, 120, 97, 109, 112, 108, 101, 46,
  99, 111, 109, 47, 102, 101, 114, 114, 117, 108, 101, 47, 102, 101, 114, 114, 117, 108, 101, 47, 122, 122, 108, 97, 119, 115, 95, 114, 101, 100, 97, 99, 116, 95, 103, 49, 46, 70, 110, 76,
  111, 110, 103, 101, 114, 73, 115, 67, 111, 109, 109, 117, 116, 97, 116, 105, 118, 101, 65, 110, 100, 65, 115, 115, 111, 99, 105, 97, 116, 105, 118, 101, 32, 101, 120, 97, 109, 112, 108, 101,
  46, 99, 111, 109, 47, 102, 101, 114, 114, 117, 108, 101, 47, 102, 101, 114, 114, 117, 108, 101, 47, 122, 122, 108, 97, 119, 115, 95, 114, 101, 100, 97, 99, 116, 95, 103, 50, 46, 70, 110,
  76, 111, 119, 101, 114, 72, 101, 120, 70, 111, 108, 100, 115, 69, 120, 97, 99, 116, 108, 121, 84, 104, 101, 72, 101, 120, 67, 97, 115, 101, 80, 97, 105, 114, 115, 32, 101, 120, 97, 109,
  112, 108, 101, 46, 99, 111, 109, 47, 102, 101, 114, 114, 117, 108, 101, 47, 102, 101, 114, 114, 117, 108, 101, 47, 122, 122, 108, 97, 119, 115, 95, 114, 101, 100, 97, 99, 116, 95, 103, 50,
  46, 70, 110, 76, 111, 119, 101, 114, 72, 101, 120, 73, 100, 101, 109, 112, 111, 116, 101, 110, 116, 65, 110, 100, 75, 101, 101, 112, 115, 72, 101, 120, 67, 108, 97, 115, 115, 32, 101, 120,
  97, 109, 112, 108, 101, 46, 99, 111, 109, 47, 102, 101, 114, 114, 117, 108, 101, 47, 102, 101, 114, 114, 117, 108, 101, 47, 122, 122, 108, 97, 119, 115, 95, 114, 101, 100, 97, 99, 116, 95,
  103, 50, 46, 70, 110, 83, 112, 97, 110, 84, 97, 107, 101, 115, 72, 101, 120, 69, 115, 99, 97, 112, 101, 73, 110, 69, 105, 116, 104, 101, 114, 67, 97, 115, 101, 32, 101, 120, 97, 109,
  112, 108, 101, 46, 99, 111, 109, 47, 102, 101, 114, 114, 117, 108, 101, 47, 102, 101, 114, 114, 117, 108, 101, 47, 122, 122, 108, 97, 119, 115, 95, 115, 116, 114, 105, 99, 116, 106, 115, 111,
  110, 95, 103, 49, 46, 70, 110, 78, 117, 109, 98, 101, 114, 69, 110, 100, 77, 97, 116, 99, 104, 101, 115, 65, 117, 116, 111, 109, 97, 116, 111, 110, 32, 101, 120, 97, 109, 112, 108, 101,
  46, 99, 111, 109, 47, 102, 101, 114, 114, 117, 108, 101, 47, 102, 101, 114, 114, 117, 108, 101, 47, 122, 122, 108, 97, 119, 115, 95, 115, 116, 114, 105, 99, 116, 106, 115, 111, 110, 95, 103,
  49, 46, 70, 110, 78, 117, 109, 98, 101, 114, 69, 110, 100, 82, 101, 97, 100, 115, 79, 110, 108, 121, 84, 104, 101, 78, 117, 109, 98, 101, 114, 32, 101, 120, 97, 109, 112, 108, 101, 46,
  99, 111, 109, 47, 102, 101, 114, 114, 117, 108, 101, 47, 102, 101, 114, 114, 117, 108, 101, 47, 122, 122, 108, 97, 119, 115, 95, 115, 116, 114, 105, 99, 116, 106, 115, 111, 110, 95, 103, 49,
  46, 70, 110, 86, 97, 108, 117, 101, 65, 108, 108, 111, 119, 101, 100, 65, 103, 114, 101, 101, 115, 87, 105, 116, 104, 67, 111, 110, 116, 101, 120, 116, 32, 101, 120, 97, 109, 112, 108, 101,
  46, 99, 111, 109, 47, 102, 101, 114, 114, 117, 108, 101, 47, 102, 101, 114, 114, 117, 108, 101, 47, 122, 122, 108, 97, 119, 115, 95, 115, 116, 114, 105, 99, 116, 106, 115, 111, 110, 95, 103,
  49, 46, 70, 110, 86, 97, 108, 117, 101, 69, 110, 100, 101, 100, 83, 101, 116, 116, 108, 101, 115]

theorem headsBytes : Try.prog.initOrder.toByteArray = List.utf8Encode (headCodes.map Char.ofNat) := by kernel_rfl

theorem heads : Try.prog.initOrder = String.ofList (headCodes.map Char.ofNat) := String.toByteArray_inj.1 (headsBytes.trans String.toByteArray_ofList.symm)

theorem headsList : Try.prog.initOrder.toList = headCodes.map Char.ofNat := by rw [heads, String.toList_ofList]


theorem make_of {P : Program} {r : List (List Char)} (h : behindMainWord (wordsSigns P.initOrder.toList) = ['c', 'u', 't'] :: r) : P.make = some .cut := by
  unfold Program.make; rw [h]; rfl
theorem lifts_of {P : Program} {r : List (List Char)} (h : behindMainWord (wordsSigns P.initOrder.toList) = ['c', 'u', 't'] :: r) : P.headLifts = [] := by
  unfold Program.headLifts; rw [h]; rfl
theorem final_of {P : Program} {r : List (List Char)} (h : behindMainWord (wordsSigns P.initOrder.toList) = ['c', 'u', 't'] :: r) : P.liftsFinal = false := by
  unfold Program.liftsFinal; rw [lifts_of h, h]; rfl
theorem strip_of (r : List (List Char)) : stripLifts liftWords (['c', 'u', 't'] :: r) = ([], ['c', 'u', 't'] :: r) := by rfl
theorem enter_of {P : Program} {r : List (List Char)} (h : behindMainWord (wordsSigns P.initOrder.toList) = ['c', 'u', 't'] :: r)
    (h1 : P.laysLater = false) (h2 : P.bearsReflect = false) (h3 : P.doorFits [] = true) : P.mayEnter = true := by
  unfold Program.mayEnter; rw [h]; simp only [strip_of, h1, h2, h3]; rfl
theorem words : ∃ r, behindMainWord (wordsSigns Try.prog.initOrder.toList) = ['c', 'u', 't'] :: r := by
  rw [headsList]
  exact ⟨(behindMainWord (wordsSigns (headCodes.map Char.ofNat))).tail, by kernel_rfl⟩
theorem laysLater_ok : Try.prog.laysLater = false := by kernel_rfl
theorem bearsReflect_ok : Try.prog.bearsReflect = false := by kernel_rfl
theorem doorFits_ok : Try.prog.doorFits [] = true := by kernel_rfl
theorem mayEnter_ok : Try.prog.mayEnter = true := words.elim fun _ h => enter_of h laysLater_ok bearsReflect_ok doorFits_ok
theorem liftsFinal_ok : Try.prog.liftsFinal = false := words.elim fun _ h => final_of h
theorem make_ok : Try.prog.make = some .cut := words.elim fun _ h => make_of h
end Go.Proofs.Qxb6001665a.Facts
