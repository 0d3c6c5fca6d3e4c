/-
  The contract of (*spelling).span at a hex escape of six bytes.
-/
import Derived.Test.Qxb6001665aClone
import Derived.Test.Qxb6001665aLowerHex
import Derived.WalkKit
import Derived.WalkSpells
import Derived.Deep.QuietTactic
import Derived.BigQuiet
import Derived.Laws.BytesArg
namespace Go.Proofs.Qxb6001665a.Sp
open Go.RowKit

theorem backslashes_len (ao : Option Addr) (n cap : Nat) (zs : List Int) (w : World) (hn : n = zs.length) (hz : By.Bs w ao zs) (hl : zs.length ≤ 1073741824) :
    Calls Try.prog 38 #[.slice ao n cap] w fun e w' => e = .returned (.int .i64 (By.lead zs)) ∧ w' = w := by
  subst hn; exact By.backslashes_any ao cap zs w hz hl

set_option maxHeartbeats 1000000 in
set_option maxRecDepth 10000 in
theorem span_any (T : ByteArray) (hT : T.size = 6) (p b off n cap : Nat) (h6 : 6 ≤ n) (h7 : n ≤ 7) (hc : n ≤ cap) (hcm : cap ≤ 1000) (w : World)
    (c0 : w.cell? ⟨p, 0, none⟩ = some (.string T)) (c1 : w.cell? ⟨p, 1, none⟩ = some (.bool true))
    (S : ByteArray) (hconv : ∀ nq, (convert 22 9 (.slice (some ⟨b, off, none⟩) 6 cap)).run Try.prog (w.drewN nq) = .ok (.string S) (w.drewN nq))
    (zs : List Int) (hzn : n = zs.length) (hcells : ∀ i, i < n → w.cell? ⟨b, off + i, none⟩ = some (.int .u8 (zs.getD i 0)))
    (hbd : ∀ i, i < n → 0 ≤ zs.getD i 0 ∧ zs.getD i 0 ≤ 255)
    (hT0 : ∀ h : 0 < T.size, ((T[0]'h).toNat : Int) = 92) (hz0 : zs.getD 0 0 = 92) (hlead : By.lead zs = 1)
    (hTk : ∀ (k : Nat) (h : k < T.size), 1 ≤ k → ((T[k]'h).toNat : Int) ≠ 92 ∧ Lh.lh (zs.getD k 0) = ((T[k]'h).toNat : Int)) :
    Calls Try.prog 42 #[.pointer (some ⟨p, 0, none⟩), .slice (some ⟨b, off, none⟩) n cap] w fun e w' => e = .returned (.tuple #[.int .i64 6, .int .i64 6, .bool false]) ∧ ∃ nq, w' = w.drewN nq := by
  have hd : decide ((6 : Int) ≤ (n : Int)) = true := by simp; omega
  have h6' : (6 : Int) ≤ (n : Int) := by omega
  have HB : Hid (∀ nq, By.Bs (w.drewN nq) (some ⟨b, off, none⟩) zs) := fun nq => .inr ⟨b, off, rfl, fun i hi => hcells i (by omega)⟩
  have HC : Hid (∀ i, i < n → w.cell? ⟨b, off + i, none⟩ = some (.int .u8 (zs.getD i 0))) := hcells
  have HD : Hid (∀ i, i < n → 0 ≤ zs.getD i 0 ∧ zs.getD i 0 ≤ 255) := hbd
  have HT : Hid (∀ h : 0 < T.size, ((T[0]'h).toNat : Int) = 92) := hT0
  have HZ : Hid (zs.getD 0 0 = 92) := hz0
  have HL : Hid (By.lead zs = 1) := hlead
  have HK : Hid (∀ (k : Nat) (h : k < T.size), 1 ≤ k → ((T[k]'h).toNat : Int) ≠ 92 ∧ Lh.lh (zs.getD k 0) = ((T[k]'h).toNat : Int)) := hTk
  have HN : Hid (n = zs.length) := hzn
  clear hcells hbd hT0 hz0 hlead hTk hzn
  go_enter Try.func42, Try.ntmps42
  go_wp2_with fail
  go_quiet (fail)
  go_wp2_with fail
  · go_ret3
    exact ⟨rfl, nq, rfl⟩
  · have hst : (S.toList == T.toList) = false := by assumption
    rw [hst]
    clear hst hconv
    obtain ⟨W, hW⟩ : ∃ W, W = w.drewN nq := ⟨_, rfl⟩
    rw [← hW]
    have d0 : W.cell? ⟨p, 0, none⟩ = some (.string T) := by rw [hW]; exact c0
    have d1 : W.cell? ⟨p, 1, none⟩ = some (.bool true) := by rw [hW]; exact c1
    have HC' : Hid (∀ i, i < n → W.cell? ⟨b, off + i, none⟩ = some (.int .u8 (zs.getD i 0))) := by rw [hW]; exact HC
    have HB' : Hid (By.Bs W (some ⟨b, off, none⟩) zs) := by rw [hW]; exact HB.out nq
    have HW : Hid (W = w.drewN nq) := hW
    clear hW c0 c1 HC HB
    go_loopw [8, 9] (fun j i wr => ∃ k : Nat, k ≤ 6 ∧ j = .int .i64 k ∧ i = .int .i64 k ∧ wr = W) (fun _ i _ => 6 - (intOf i).toNat)
    case atStart => exact ⟨0, Nat.zero_le _, rfl, rfl, rfl⟩
    case round =>
      obtain ⟨k, hk, rfl, rfl, rfl⟩ := hrel
      by_cases hk6 : k < 6
      · by_cases hk0 : k = 0
        · subst hk0
          have hcell := HC'.out 0 (by omega)
          rw [HZ.out, Nat.add_zero] at hcell
          have hTs : 0 < T.size := by omega
          have hT0 := HT.out hTs
          go_wp2_with (go_at_call 38; go_must (refine (backslashes_len _ _ _ _ _ HN.out HB'.out (by have := HN.out; omega)).mono ?_; rintro e w' ⟨rfl, rfl⟩; rw [HL.out]))
          go_roundw
          case rel => exact ⟨1, by omega, by go_num, by go_num, by trivial⟩
          case measure => simp [intOf]
        · have hks : k < T.size := by omega
          have hkn : k < n := by omega
          obtain ⟨hne, hlh⟩ := HK.out k hks (by omega)
          have hcell := HC'.out k hkn
          obtain ⟨hb0, hb1⟩ := HD.out k hkn
          obtain ⟨t, ht⟩ : ∃ t, t = zs.getD k 0 := ⟨_, rfl⟩
          obtain ⟨c, hcc⟩ : ∃ c : Int, c = ((T[k]'hks).toNat : Int) := ⟨_, rfl⟩
          rw [← ht] at hcell hb0 hb1 hlh
          rw [← hcc] at hne hlh
          have hcc' := hcc.symm
          have hne' : (c == 92) = false := by simpa using hne
          clear ht hcc hne
          by_cases htc : t = c
          · subst htc
            clear hlh
            go_wp2
            go_roundw
            case rel => exact ⟨k + 1, by omega, by go_num, by go_num, by trivial⟩
            case measure => simp [intOf]; omega
          · have htc' : (t == c) = false := by simpa using htc
            clear htc
            go_wp2_with (go_at_call 41; go_must (refine (Lh.lowerHex_any _ hb0 hb1 _).mono ?_; rintro e w' ⟨rfl, rfl⟩))
            go_roundw
            case rel => exact ⟨k + 1, by omega, by go_num, by go_num, by trivial⟩
            case measure => simp [intOf]; omega
      · obtain rfl : k = 6 := by omega
        go_wp2
        go_ret3
        exact ⟨rfl, nq, HW.out⟩
end Go.Proofs.Qxb6001665a.Sp
