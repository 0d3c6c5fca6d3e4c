/-
  The walk of FnPlainNamesSpec.
-/
import Derived.Test.Qxb6600191aNames
import Derived.WalkKit
import Derived.WalkSpells
namespace Go.Proofs.Qxb6600191a.Nm
open Go.RowKit
set_option linter.unusedVariables false

theorem law_huge (s : ByteArray) (w : World) (hl : 1048576 < s.size) (hm : s.size ≤ maxLen) :
    Calls Try.prog 6 #[.string s] w fun e w' => e = .returned (.bool true) ∧ Grown w w' := by
  unfold maxLen at hm
  go_enter Try.func6, Try.ntmps6
  go_wp2_with (go_at_call 18; go_must (refine (zzBytes_no s _ hl).mono ?_; rintro e w' ⟨rfl, rfl⟩))
  go_ret
  exact ⟨rfl, Grown.refl _⟩
theorem law_long (s : ByteArray) (w : World) (hl : 65536 < s.size) (hm : s.size ≤ 1048576) :
    Calls Try.prog 6 #[.string s] w fun e w' => e = .returned (.bool true) ∧ Grown w w' := by
  go_enter Try.func6, Try.ntmps6
  go_wp2_with (go_at_call 18; go_must (refine (zzBytes_yes s _ hm).mono ?_; rintro e w' ⟨rfl, rfl⟩))
  go_ret
  exact ⟨rfl, Grown.refl _⟩

set_option maxHeartbeats 2000000 in
theorem law_in (s : ByteArray) (w : World) (hl : s.size ≤ 65536) :
    Calls Try.prog 6 #[.string s] w fun e w' => e = .returned (.bool true) ∧ Grown w w' := by
  go_enter Try.func6, Try.ntmps6
  go_wp2_with (go_at_call 18; go_must (refine (zzBytes_yes s _ (by omega)).mono ?_; rintro e w' ⟨rfl, rfl⟩))
  refine (zzplain_any s _ (by omega)).mono ?_
  rintro e w1 ⟨⟨n, ok, rfl, hPN⟩, rfl⟩
  go_wp2_with fail
  refine (first_any s _ (by omega)).mono ?_
  rintro e w2 ⟨⟨k, rfl, hk, hno, hyes⟩, rfl⟩
  have HNO : Hid (∀ i, i < k → ¬ Wc (A s i)) := hno
  have HYES : Hid (k < s.size → Wc (A s k)) := hyes
  clear hno hyes
  rcases hPN with ⟨rfl, rfl, i0, hi0, hbad, hcl⟩ | ⟨rfl, rfl, hcl⟩ | ⟨rfl, k', hk', hwc, hcl, hnm⟩
  · -- a brace or an escape comes first
    have hik : i0 < k := by
      rcases Nat.lt_or_ge i0 k with h | h
      · exact h
      · exfalso
        have h1 := HYES.out (by omega)
        by_cases e : i0 = k
        · subst e; unfold Wc at h1; unfold Bad at hbad; omega
        · exact (hcl k (by omega)).1 h1
    have HB : Hid (Bad (A s i0)) := hbad
    have HCL : Hid (Clear s i0) := hcl
    clear hbad hcl
    go_wp2_with fail
    go_loop [6] (fun b => ∃ j : Nat, j ≤ i0 ∧ b = .int .i64 j) (fun b => i0 - (intOf b).toNat)
    case atStart => exact ⟨0, Nat.zero_le _, rfl⟩
    case round =>
      obtain ⟨j, hj, rfl⟩ := hrel
      have hjs : j < s.size := by omega
      have hjk : j < k := by omega
      obtain ⟨c, hcc⟩ : ∃ c, ((s[j]'hjs).toNat : Int) = c := ⟨_, rfl⟩
      have HA : Hid (A s j = c) := (A_eq hjs).symm.trans hcc
      by_cases h123 : c = 123
      · subst h123
        go_wp2
        go_ret
        exact ⟨rfl, Grown.refl _⟩
      by_cases h92 : c = 92
      · subst h92
        go_wp2
        go_ret
        exact ⟨rfl, Grown.refl _⟩
      have hne : j ≠ i0 := fun h => by
        have hb := HB.out; rw [← h, HA.out] at hb; unfold Bad at hb; omega
      have hjlt : j < i0 := by omega
      have b123 : (c == 123) = false := by simpa using h123
      have b92 : (c == 92) = false := by simpa using h92
      clear h123 h92 hne
      go_wp2
      go_round
      case rel => exact ⟨j + 1, by omega, by go_num⟩
      case measure => simp [intOf]; omega
  · -- nothing that ends the look
    obtain rfl : k = s.size := by
      rcases Nat.lt_or_ge k s.size with h | h
      · exact absurd (HYES.out h) (hcl k h).1
      · omega
    have HCL : Hid (Clear s s.size) := hcl
    clear hcl HYES HNO
    go_wp2_with fail
    go_loop [6] (fun b => ∃ j : Nat, j ≤ s.size ∧ b = .int .i64 j) (fun b => s.size - (intOf b).toNat)
    case atStart => exact ⟨0, Nat.zero_le _, rfl⟩
    case round =>
      obtain ⟨j, hj, rfl⟩ := hrel
      by_cases hjk : j < s.size
      · have hjs : j < s.size := hjk
        obtain ⟨c, hcc⟩ : ∃ c, ((s[j]'hjs).toNat : Int) = c := ⟨_, rfl⟩
        have HA : Hid (A s j = c) := (A_eq hjs).symm.trans hcc
        have hnb : ¬ Bad c := by rw [← HA.out]; exact (HCL.out j hjk).2
        have b123 : (c == 123) = false := by unfold Bad at hnb; simp; omega
        have b92 : (c == 92) = false := by unfold Bad at hnb; simp; omega
        clear hnb
        go_wp2
        go_round
        case rel => exact ⟨j + 1, by omega, by go_num⟩
        case measure => simp [intOf]; omega
      · go_wp2
        go_ret
        exact ⟨rfl, Grown.refl _⟩
  · -- a wildcard comes first
    obtain rfl : k = k' := by
      rcases Nat.lt_or_ge k k' with h | h
      · exact absurd (HYES.out (by omega)) (hcl k h).1
      · by_cases e : k = k'
        · exact e
        · exact absurd hwc (HNO.out k' (by omega))
    have HCL : Hid (Clear s k) := hcl
    have HW : Hid (Wc (A s k)) := hwc
    have HN : Hid (NM s k n) := hnm
    clear hcl HYES HNO hwc hnm
    go_wp2_with fail
    go_loop [6] (fun b => ∃ j : Nat, j ≤ k ∧ b = .int .i64 j) (fun b => k - (intOf b).toNat)
    case atStart => exact ⟨0, Nat.zero_le _, rfl⟩
    case round =>
      obtain ⟨j, hj, rfl⟩ := hrel
      by_cases hjk : j < k
      · have hjs : j < s.size := by omega
        obtain ⟨c, hcc⟩ : ∃ c, ((s[j]'hjs).toNat : Int) = c := ⟨_, rfl⟩
        have HA : Hid (A s j = c) := (A_eq hjs).symm.trans hcc
        have hnb : ¬ Bad c := by rw [← HA.out]; exact (HCL.out j hjk).2
        have b123 : (c == 123) = false := by unfold Bad at hnb; simp; omega
        have b92 : (c == 92) = false := by unfold Bad at hnb; simp; omega
        clear hnb
        go_wp2
        go_round
        case rel => exact ⟨j + 1, by omega, by go_num⟩
        case measure => simp [intOf]; omega
      · clear HCL
        have hkne : ((k : Int) == (s.size : Int)) = false := by simp; omega
        have hns : n < s.size := by rcases HN.out.1 with h | h <;> omega
        obtain ⟨c, hcc⟩ : ∃ c, ((s[n]'hns).toNat : Int) = c := ⟨_, rfl⟩
        have HA : Hid (A s n = c) := (A_eq hns).symm.trans hcc
        by_cases h47 : c = 47
        · have hnk : n < k := by
            rcases HN.out.1 with h | h
            · by_cases e : k = 0
              · exfalso
                have hw := HW.out
                rw [e, ← h, HA.out] at hw; unfold Wc at hw; omega
              · omega
            · exact h.1
          have HST : Hid (∀ j, n + 1 ≤ j → j < k → A s j ≠ 47) := fun j h1 h2 => HN.out.2 j (by omega) h2
          have hnk' : ((n : Int) == (k : Int)) = false := by simp; omega
          clear HN HW HA
          subst h47
          by_cases hn0 : 0 < n
          · go_wp2_with fail
            go_loop [8] (fun b => ∃ q : Nat, (n + 1) ≤ q ∧ q ≤ k ∧ b = .int .i64 q) (fun b => k - (intOf b).toNat)
            case atStart => exact ⟨(n + 1), Nat.le_refl _, by omega, by go_num⟩
            case round =>
              obtain ⟨q, hq0, hq, rfl⟩ := hrel
              by_cases hqk : q < k
              · have hqs : q < s.size := by omega
                obtain ⟨d, hdd⟩ : ∃ d, ((s[q]'hqs).toNat : Int) = d := ⟨_, rfl⟩
                have hd47 : (d == 47) = false := by
                  have := HST.out q hq0 hqk
                  rw [← A_eq hqs, hdd] at this
                  simpa using this
                go_wp2
                go_round
                case rel => exact ⟨q + 1, by omega, by omega, by go_num⟩
                case measure => simp [intOf]; omega
              · go_wp2
                go_ret
                exact ⟨rfl, Grown.refl _⟩
          · go_wp2_with fail
            go_loop [8] (fun b => ∃ q : Nat, (n + 1) ≤ q ∧ q ≤ k ∧ b = .int .i64 q) (fun b => k - (intOf b).toNat)
            case atStart => exact ⟨(n + 1), Nat.le_refl _, by omega, by go_num⟩
            case round =>
              obtain ⟨q, hq0, hq, rfl⟩ := hrel
              by_cases hqk : q < k
              · have hqs : q < s.size := by omega
                obtain ⟨d, hdd⟩ : ∃ d, ((s[q]'hqs).toNat : Int) = d := ⟨_, rfl⟩
                have hd47 : (d == 47) = false := by
                  have := HST.out q hq0 hqk
                  rw [← A_eq hqs, hdd] at this
                  simpa using this
                go_wp2
                go_round
                case rel => exact ⟨q + 1, by omega, by omega, by go_num⟩
                case measure => simp [intOf]; omega
              · go_wp2
                go_ret
                exact ⟨rfl, Grown.refl _⟩
        · have hn0 : n = 0 := by
            rcases HN.out.1 with h | h
            · exact h
            · exfalso; exact h47 (by rw [← HA.out]; exact h.2)
          have HST : Hid (∀ j, 0 ≤ j → j < k → A s j ≠ 47) := fun j _ h2 => by
            by_cases e : j = n
            · subst e; rw [HA.out]; exact h47
            · exact HN.out.2 j (by omega) h2
          have hb47 : (c == 47) = false := by simpa using h47
          clear HN HW HA h47
          subst hn0
          by_cases hk0 : k = 0
          · subst hk0
            go_wp2_with fail
            go_loop [8] (fun b => b = .int .i64 0) (fun _ => 0)
            case atStart => rfl
            case round =>
              obtain rfl := hrel
              go_wp2
              go_ret
              exact ⟨rfl, Grown.refl _⟩
          · have hk0' : ((0 : Int) == (k : Int)) = false := by simp; omega
            go_wp2_with fail
            go_loop [8] (fun b => ∃ q : Nat, 0 ≤ q ∧ q ≤ k ∧ b = .int .i64 q) (fun b => k - (intOf b).toNat)
            case atStart => exact ⟨0, Nat.le_refl _, by omega, by go_num⟩
            case round =>
              obtain ⟨q, hq0, hq, rfl⟩ := hrel
              by_cases hqk : q < k
              · have hqs : q < s.size := by omega
                obtain ⟨d, hdd⟩ : ∃ d, ((s[q]'hqs).toNat : Int) = d := ⟨_, rfl⟩
                have hd47 : (d == 47) = false := by
                  have := HST.out q hq0 hqk
                  rw [← A_eq hqs, hdd] at this
                  simpa using this
                go_wp2
                go_round
                case rel => exact ⟨q + 1, by omega, by omega, by go_num⟩
                case measure => simp [intOf]; omega
              · go_wp2
                go_ret
                exact ⟨rfl, Grown.refl _⟩
end Go.Proofs.Qxb6600191a.Nm
