/-
  The walk of FnNumberEndMatchesAutomaton.
-/
import Derived.Test.Qxb6001665aNumModel
import Derived.Test.Qxb6001665aNumEnd
import Derived.WalkKit
import Derived.WalkSpells
namespace Go.Proofs.Qxb6001665a.Num
open Go.RowKit
set_option linter.unusedVariables false

theorem law_long (ao : Option Addr) (n cap : Nat) (s : Int) (w : World) (hl : 1048576 < n) :
    Calls Try.prog 9 #[.slice ao n cap, .int .i64 s] w fun e w' => e = .returned (.bool true) ∧ Below w.heap.size w w' := by
  go_enter Try.func9, Try.ntmps9
  go_wp2_with (go_at_call 28; go_must (refine (zzBytes28_no _ _ _ _ _ hl).mono ?_; rintro e w' ⟨rfl, rfl⟩))
  go_ret
  exact ⟨rfl, Below.refl _ _⟩
theorem law_low (ao : Option Addr) (n cap : Nat) (s : Int) (w : World) (hl : n ≤ 1048576) (hs : s < 0) :
    Calls Try.prog 9 #[.slice ao n cap, .int .i64 s] w fun e w' => e = .returned (.bool true) ∧ Below w.heap.size w w' := by
  go_enter Try.func9, Try.ntmps9
  go_wp2_with (go_at_call 28; go_must (refine (zzBytes28_yes _ _ _ _ _ hl).mono ?_; rintro e w' ⟨rfl, rfl⟩))
  go_ret
  exact ⟨rfl, Below.refl _ _⟩
theorem law_high (ao : Option Addr) (n cap : Nat) (s : Int) (w : World) (hl : n ≤ 1048576) (hs0 : 0 ≤ s) (hs : (n : Int) < s) :
    Calls Try.prog 9 #[.slice ao n cap, .int .i64 s] w fun e w' => e = .returned (.bool true) ∧ Below w.heap.size w w' := by
  go_enter Try.func9, Try.ntmps9
  go_wp2_with (go_at_call 28; go_must (refine (zzBytes28_yes _ _ _ _ _ hl).mono ?_; rintro e w' ⟨rfl, rfl⟩))
  go_ret
  exact ⟨rfl, Below.refl _ _⟩

theorem law_in (ao : Option Addr) (cap : Nat) (zs : List Int) (s : Nat) (w : World) (hz : By.Bs w ao zs) (hn : ao = none → zs = [] ∧ cap = 0) (hl : zs.length ≤ 1048576) (hs : s ≤ zs.length) :
    Calls Try.prog 9 #[.slice ao zs.length cap, .int .i64 s] w fun e w' => e = .returned (.bool true) ∧ Below w.heap.size w w' := by
  have HS : Hid (chk zs (R zs s 0 (-1, -1)) = ans (numE zs s)) := same zs s
  obtain ⟨P, hP⟩ : ∃ P, P = ans (numE zs s) := ⟨_, rfl⟩
  have HP : Hid (ans (numE zs s) = P) := hP.symm
  have HM : Hid (chk zs (R zs s 0 (-1, -1)) = P) := HS.out.trans hP.symm
  clear hP HS
  go_enter Try.func9, Try.ntmps9
  go_wp2_with (first
    | (go_at_call 28; go_must (refine (zzBytes28_yes _ _ _ _ _ hl).mono ?_; rintro e w' ⟨rfl, rfl⟩))
    | (go_at_call 29; go_must (refine (clone29_any _ _ _ _ hz hn (by omega)).mono ?_; rintro e w1 ⟨ao', cap', rfl, hz', hb1⟩))
    | (go_at_call 30; go_must (refine (model_any _ _ _ _ _ hz' (by omega) hs).mono ?_; rintro e w2 ⟨rfl, hw2⟩; rw [hw2, HM.out]; clear hw2 w2))
    | (go_at_call 31; go_must (refine (zzNumberEnd_any _ _ _ _ _ hz' (by omega) hs).mono ?_; rintro e w3 ⟨rfl, hw3⟩; rw [hw3, HP.out]; clear hw3 w3)))
  go_ret
  exact ⟨By.ret_bool (by simp), hb1⟩
end Go.Proofs.Qxb6001665a.Num
