/-
  The contracts of redact.longer and redact.ZZLonger, and the plain laws of the plain function that they compute.
-/
import Derived.Test.Qxb6001665aRows
import Derived.WalkKit
namespace Go.Proofs.Qxb6001665a.Lg
open Go.RowKit

/-- the length that 'longer' picks -/
def lgN (n m : Int) : Int := if n < m then m else n
/-- the least that 'longer' picks -/
def lgL (n l m ml : Int) : Int := if n < m then ml else if m = n then (if l < ml then l else ml) else l

theorem lgN_comm (n m : Int) : lgN n m = lgN m n := by unfold lgN; split <;> split <;> omega
theorem lgL_comm (n l m ml : Int) : lgL n l m ml = lgL m ml n l := by unfold lgL; repeat' split <;> first | rfl | omega
theorem lgN_same (n : Int) : lgN n n = n := by unfold lgN; split <;> omega
theorem lgL_same (n l : Int) : lgL n l n l = l := by unfold lgL; repeat' split <;> first | rfl | omega
theorem lgN_assoc (n m p : Int) : lgN (lgN n m) p = lgN n (lgN m p) := by unfold lgN; repeat' split <;> first | rfl | omega
theorem lgL_assoc (n l m ml p pl : Int) : lgL (lgN n m) (lgL n l m ml) p pl = lgL n l (lgN m p) (lgL m ml p pl) := by
  unfold lgL lgN
  by_cases h1 : n < m <;> by_cases h2 : m < p <;> by_cases h3 : n < p <;> by_cases h4 : m = n <;> by_cases h5 : p = m <;> by_cases h6 : p = n <;> simp [*] <;> (repeat' split) <;> omega

theorem ret2_int {k : IntKind} {a b c d : Int} (h : a = b) (g : c = d) : Ending.returned (.tuple #[.int k a, .int k c]) = .returned (.tuple #[.int k b, .int k d]) := by rw [h, g]

theorem longer_any (n l m ml : Int) (w : World) :
    Calls Try.prog 40 #[.int .i64 n, .int .i64 l, .int .i64 m, .int .i64 ml] w fun e w' => e = .returned (.tuple #[.int .i64 (lgN n m), .int .i64 (lgL n l m ml)]) ∧ w' = w := by
  go_enter Try.func40, Try.ntmps40
  go_wp2
  all_goals
    go_ret2
    refine ⟨ret2_int ?_ ?_, rfl⟩
    · try simp only [beq_iff_eq, beq_eq_false_iff_ne] at *
      unfold lgN; split <;> omega
    · try simp only [beq_iff_eq, beq_eq_false_iff_ne] at *
      unfold lgL; repeat' split <;> omega

theorem zzLonger_any (n l m ml : Int) (w : World) :
    Calls Try.prog 20 #[.int .i64 n, .int .i64 l, .int .i64 m, .int .i64 ml] w fun e w' => e = .returned (.tuple #[.int .i64 (lgN n m), .int .i64 (lgL n l m ml)]) ∧ w' = w := by
  go_enter Try.func20, Try.ntmps20
  go_wp2_with (go_at_call 40; refine (longer_any _ _ _ _ _).mono ?_; rintro e w' ⟨rfl, rfl⟩)
  go_ret2
  exact ⟨rfl, rfl⟩
end Go.Proofs.Qxb6001665a.Lg
