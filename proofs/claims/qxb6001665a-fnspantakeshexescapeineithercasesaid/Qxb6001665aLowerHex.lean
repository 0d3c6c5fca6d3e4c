/-
  The contracts of redact.lowerHex, redact.ZZLowerHex and zzG2IsUpperHexLetter.
-/
import Derived.Test.Qxb6001665aRows
import Derived.WalkKit
namespace Go.Proofs.Qxb6001665a.Lh
open Go.RowKit

/-- what 'lowerHex' computes -/
def lh (c : Int) : Int := if 65 ≤ c ∧ c ≤ 70 then c + 32 else c
/-- what 'zzG2IsUpperHexLetter' computes -/
def up (c : Int) : Bool := decide (65 ≤ c ∧ c ≤ 70)

theorem lh_up {c : Int} (h : up c = true) : lh c = c + 32 := by unfold up at h; unfold lh; rw [if_pos (of_decide_eq_true h)]
theorem lh_no {c : Int} (h : up c = false) : lh c = c := by unfold up at h; unfold lh; rw [if_neg (of_decide_eq_false h)]
theorem up_iff {c : Int} : up c = true ↔ 65 ≤ c ∧ c ≤ 70 := by unfold up; exact decide_eq_true_iff
theorem up_not {c : Int} : up c = false ↔ ¬ (65 ≤ c ∧ c ≤ 70) := by unfold up; exact decide_eq_false_iff_not

theorem ret_int {k : IntKind} {a b : Int} (h : a = b) : Ending.returned (.int k a) = .returned (.int k b) := by rw [h]
theorem ret_bool {a b : Bool} (h : a = b) : Ending.returned (.bool a) = .returned (.bool b) := by rw [h]

theorem lowerHex_any (c : Int) (h0 : 0 ≤ c) (h1 : c ≤ 255) (w : World) :
    Calls Try.prog 41 #[.int .u8 c] w fun e w' => e = .returned (.int .u8 (lh c)) ∧ w' = w := by
  go_enter Try.func41, Try.ntmps41
  go_wp2
  all_goals
    go_ret
    refine ⟨ret_int ?_, rfl⟩
    unfold lh
    first | (rw [if_pos (by omega)]; omega) | rw [if_neg (by omega)]

theorem zzLowerHex_any (c : Int) (h0 : 0 ≤ c) (h1 : c ≤ 255) (w : World) :
    Calls Try.prog 21 #[.int .u8 c] w fun e w' => e = .returned (.int .u8 (lh c)) ∧ w' = w := by
  go_enter Try.func21, Try.ntmps21
  go_wp2_with (go_at_call 41; refine (lowerHex_any _ h0 h1 _).mono ?_; rintro e w' ⟨rfl, rfl⟩)
  go_ret
  exact ⟨rfl, rfl⟩

theorem isUpper_any (c : Int) (h0 : 0 ≤ c) (h1 : c ≤ 255) (w : World) :
    Calls Try.prog 22 #[.int .u8 c] w fun e w' => e = .returned (.bool (up c)) ∧ w' = w := by
  go_enter Try.func22, Try.ntmps22
  go_wp2
  all_goals
    go_ret
    refine ⟨ret_bool ?_, rfl⟩
    unfold up
    first | rfl | (symm; first | exact decide_eq_true (by omega) | exact decide_eq_false (by omega)) | (congr 1; exact propext ⟨fun _ => by omega, fun _ => by omega⟩)
end Go.Proofs.Qxb6001665a.Lh
