/-
  The contracts of numberStepSJg1, acceptingNumberSJg1, digitsEnd and of zzBytes_FnNumberEndMatchesAutomaton.
-/
import Derived.Test.Qxb6001665aSlashes
import Derived.Test.Qxb6001665aNumPlain
import Derived.WalkKit
import Derived.WalkSpells
namespace Go.Proofs.Qxb6001665a.Num
open Go.RowKit
set_option linter.unusedSimpArgs false
set_option linter.unusedVariables false

theorem step0_any (c : Int) (w : World) : Calls Try.prog 43 #[.int .i64 0, .int .u8 c] w fun e w' => e = .returned (.int .i64 (step 0 c)) ∧ w' = w := by
  go_enter Try.func43, Try.ntmps43
  go_wp2
  all_goals
    go_ret
    refine ⟨By.ret_int ?_, rfl⟩
    try simp only [beq_iff_eq, beq_eq_false_iff_ne] at *
    simp [step, dg, ex, sg]
    repeat' split
    all_goals omega
theorem step1_any (c : Int) (w : World) : Calls Try.prog 43 #[.int .i64 1, .int .u8 c] w fun e w' => e = .returned (.int .i64 (step 1 c)) ∧ w' = w := by
  go_enter Try.func43, Try.ntmps43
  go_wp2
  all_goals
    go_ret
    refine ⟨By.ret_int ?_, rfl⟩
    try simp only [beq_iff_eq, beq_eq_false_iff_ne] at *
    simp [step, dg, ex, sg]
    repeat' split
    all_goals omega
theorem step2_any (c : Int) (w : World) : Calls Try.prog 43 #[.int .i64 2, .int .u8 c] w fun e w' => e = .returned (.int .i64 (step 2 c)) ∧ w' = w := by
  go_enter Try.func43, Try.ntmps43
  go_wp2
  all_goals
    go_ret
    refine ⟨By.ret_int ?_, rfl⟩
    try simp only [beq_iff_eq, beq_eq_false_iff_ne] at *
    simp [step, dg, ex, sg]
    repeat' split
    all_goals omega
theorem step3_any (c : Int) (w : World) : Calls Try.prog 43 #[.int .i64 3, .int .u8 c] w fun e w' => e = .returned (.int .i64 (step 3 c)) ∧ w' = w := by
  go_enter Try.func43, Try.ntmps43
  go_wp2
  all_goals
    go_ret
    refine ⟨By.ret_int ?_, rfl⟩
    try simp only [beq_iff_eq, beq_eq_false_iff_ne] at *
    simp [step, dg, ex, sg]
    repeat' split
    all_goals omega
theorem step4_any (c : Int) (w : World) : Calls Try.prog 43 #[.int .i64 4, .int .u8 c] w fun e w' => e = .returned (.int .i64 (step 4 c)) ∧ w' = w := by
  go_enter Try.func43, Try.ntmps43
  go_wp2
  all_goals
    go_ret
    refine ⟨By.ret_int ?_, rfl⟩
    try simp only [beq_iff_eq, beq_eq_false_iff_ne] at *
    simp [step, dg, ex, sg]
    repeat' split
    all_goals omega
theorem step5_any (c : Int) (w : World) : Calls Try.prog 43 #[.int .i64 5, .int .u8 c] w fun e w' => e = .returned (.int .i64 (step 5 c)) ∧ w' = w := by
  go_enter Try.func43, Try.ntmps43
  go_wp2
  all_goals
    go_ret
    refine ⟨By.ret_int ?_, rfl⟩
    try simp only [beq_iff_eq, beq_eq_false_iff_ne] at *
    simp [step, dg, ex, sg]
    repeat' split
    all_goals omega
theorem step6_any (c : Int) (w : World) : Calls Try.prog 43 #[.int .i64 6, .int .u8 c] w fun e w' => e = .returned (.int .i64 (step 6 c)) ∧ w' = w := by
  go_enter Try.func43, Try.ntmps43
  go_wp2
  all_goals
    go_ret
    refine ⟨By.ret_int ?_, rfl⟩
    try simp only [beq_iff_eq, beq_eq_false_iff_ne] at *
    simp [step, dg, ex, sg]
    repeat' split
    all_goals omega
theorem step7_any (c : Int) (w : World) : Calls Try.prog 43 #[.int .i64 7, .int .u8 c] w fun e w' => e = .returned (.int .i64 (step 7 c)) ∧ w' = w := by
  go_enter Try.func43, Try.ntmps43
  go_wp2
  all_goals
    go_ret
    refine ⟨By.ret_int ?_, rfl⟩
    try simp only [beq_iff_eq, beq_eq_false_iff_ne] at *
    simp [step, dg, ex, sg]
    repeat' split
    all_goals omega
theorem step8_any (c : Int) (w : World) : Calls Try.prog 43 #[.int .i64 8, .int .u8 c] w fun e w' => e = .returned (.int .i64 (step 8 c)) ∧ w' = w := by
  go_enter Try.func43, Try.ntmps43
  go_wp2
  all_goals
    go_ret
    refine ⟨By.ret_int ?_, rfl⟩
    try simp only [beq_iff_eq, beq_eq_false_iff_ne] at *
    simp [step, dg, ex, sg]
    repeat' split
    all_goals omega
theorem step_any (st c : Int) (h0 : 0 ≤ st) (h8 : st ≤ 8) (w : World) : Calls Try.prog 43 #[.int .i64 st, .int .u8 c] w fun e w' => e = .returned (.int .i64 (step st c)) ∧ w' = w := by
  rcases (show st = 0 ∨ st = 1 ∨ st = 2 ∨ st = 3 ∨ st = 4 ∨ st = 5 ∨ st = 6 ∨ st = 7 ∨ st = 8 from by omega) with h | h | h | h | h | h | h | h | h <;> subst h
  · exact step0_any c w
  · exact step1_any c w
  · exact step2_any c w
  · exact step3_any c w
  · exact step4_any c w
  · exact step5_any c w
  · exact step6_any c w
  · exact step7_any c w
  · exact step8_any c w

theorem step_bd (st c : Int) : -1 ≤ step st c ∧ step st c ≤ 8 := by
  unfold step; repeat' split
  all_goals omega

theorem accept_any (st : Int) (w : World) : Calls Try.prog 44 #[.int .i64 st] w fun e w' => e = .returned (.bool (acc st)) ∧ w' = w := by
  go_enter Try.func44, Try.ntmps44
  go_wp2
  all_goals
    go_ret
    refine ⟨By.ret_bool ?_, rfl⟩
    try simp only [beq_iff_eq, beq_eq_false_iff_ne] at *
    rw [Bool.eq_iff_iff]
    simp [acc, *]

theorem zzBytes28_yes (ao : Option Addr) (n cap : Nat) (s : Int) (w : World) (hl : n ≤ 1048576) :
    Calls Try.prog 28 #[.slice ao n cap, .int .i64 s] w fun e w' => e = .returned (.bool true) ∧ w' = w := by
  go_enter Try.func28, Try.ntmps28
  go_wp2
  go_ret
  exact ⟨rfl, rfl⟩
theorem zzBytes28_no (ao : Option Addr) (n cap : Nat) (s : Int) (w : World) (hl : 1048576 < n) :
    Calls Try.prog 28 #[.slice ao n cap, .int .i64 s] w fun e w' => e = .returned (.bool false) ∧ w' = w := by
  go_enter Try.func28, Try.ntmps28
  go_wp2
  go_ret
  exact ⟨rfl, rfl⟩

theorem dg_iff {c : Int} : dg c = true ↔ 48 ≤ c ∧ c ≤ 57 := by unfold dg; exact decide_eq_true_iff
theorem digitsEnd_any (ao : Option Addr) (cap : Nat) (zs : List Int) (k : Nat) (w : World) (hz : By.Bs w ao zs) (hl : zs.length ≤ 1073741824) (hk : k ≤ zs.length) :
    Calls Try.prog 50 #[.slice ao zs.length cap, .int .i64 k] w fun e w' => e = .returned (.int .i64 (dEnd zs k : Nat)) ∧ w' = w := by
  go_enter Try.func50, Try.ntmps50
  go_wp2
  go_loop [1] (fun n => ∃ j : Nat, k ≤ j ∧ j ≤ zs.length ∧ n = .int .i64 j ∧ Hid (dEnd zs k = dEnd zs j)) (fun n => zs.length - (intOf n).toNat)
  case atStart => exact ⟨k, Nat.le_refl _, hk, rfl, rfl⟩
  case round =>
    obtain ⟨j, hkj, hj, rfl, hd⟩ := hrel
    by_cases hlt : j < zs.length
    · rcases hz with h | ⟨b, off, rfl, hc⟩
      · simp [h] at hlt
      · have hck := hc j hlt
        obtain ⟨c, hcd⟩ : ∃ c, c = zs.getD j 0 := ⟨_, rfl⟩
        rw [← hcd] at hck
        have HC : Hid (c = at' zs j) := hcd
        clear hc hcd
        by_cases hdg : 48 ≤ c ∧ c ≤ 57
        · obtain ⟨h48, h57⟩ := hdg
          go_wp2
          go_round
          case rel => exact ⟨j + 1, by omega, by omega, by go_num, hd.out.trans (dEnd_dg (isAt_true.2 ⟨hlt, by rw [← HC.out]; exact dg_iff.2 ⟨h48, h57⟩⟩))⟩
          case measure => simp [intOf]; omega
        · have hnd : isAt zs j dg = false := isAt_false.2 fun _ => by rw [← HC.out]; unfold dg; exact decide_eq_false hdg
          have HE : Hid (dEnd zs k = j) := hd.out.trans (dEnd_no hnd)
          clear hnd
          by_cases h48 : 48 ≤ c
          · have h57 : ¬ c ≤ 57 := fun h => hdg ⟨h48, h⟩
            clear hdg
            go_wp2
            go_ret
            exact ⟨By.ret_int (by rw [HE.out]), rfl⟩
          · clear hdg
            go_wp2
            go_ret
            exact ⟨By.ret_int (by rw [HE.out]), rfl⟩
    · clear hz
      have HE : Hid (dEnd zs k = j) := hd.out.trans (dEnd_end zs j (by omega))
      go_wp2
      go_ret
      exact ⟨By.ret_int (by rw [HE.out]), rfl⟩
end Go.Proofs.Qxb6001665a.Num
