/-
  The contracts of policy.plainNames, policy.ZZplainNames, zzpb1FirstWildcard and zzBytes_FnPlainNamesSpec.
-/
import Derived.Test.Qxb6600191aRows
import Derived.WalkKit
import Derived.WalkSpells
namespace Go.Proofs.Qxb6600191a.Nm
open Go.RowKit
set_option linter.unusedVariables false

/-- the byte at a place -/
def A (s : ByteArray) (i : Nat) : Int := if h : i < s.size then ((s[i]'h).toNat : Int) else 0
theorem A_eq {s : ByteArray} {i : Nat} (h : i < s.size) : ((s[i]'h).toNat : Int) = A s i := by unfold A; rw [dif_pos h]
/-- a wildcard; a brace or an escape -/
def Wc (c : Int) : Prop := c = 42 ∨ c = 63
def Bad (c : Int) : Prop := c = 123 ∨ c = 92

/-- k: the first wildcard, or the end -/
def FW (s : ByteArray) (k : Nat) : Prop := k ≤ s.size ∧ (∀ i, i < k → ¬ Wc (A s i)) ∧ (k < s.size → Wc (A s k))
/-- n: the last '/' before i that counts -/
def NM (s : ByteArray) (i n : Nat) : Prop := (n = 0 ∨ (n < i ∧ A s n = 47)) ∧ ∀ j, n < j → j < i → A s j ≠ 47
/-- nothing before i that ends the look -/
def Clear (s : ByteArray) (i : Nat) : Prop := ∀ j, j < i → ¬ Wc (A s j) ∧ ¬ Bad (A s j)
/-- what plainNames answers -/
def PN (s : ByteArray) (n : Nat) (ok : Bool) : Prop :=
  (ok = false ∧ n = 0 ∧ ∃ i, i < s.size ∧ Bad (A s i) ∧ Clear s i) ∨
  (ok = true ∧ n = s.size ∧ Clear s s.size) ∨
  (ok = true ∧ ∃ k, k < s.size ∧ Wc (A s k) ∧ Clear s k ∧ NM s k n)

theorem NM.step_no {s : ByteArray} {i n : Nat} (h : NM s i n) (hc : A s i ≠ 47) : NM s (i + 1) n := by
  refine ⟨by rcases h.1 with h | h; exact .inl h; exact .inr ⟨by omega, h.2⟩, fun j h1 h2 => ?_⟩
  by_cases e : j = i
  · subst e; exact hc
  · exact h.2 j h1 (by omega)
theorem NM.step_yes {s : ByteArray} {i : Nat} (hc : A s i = 47) : NM s (i + 1) i := ⟨.inr ⟨by omega, hc⟩, fun j h1 h2 => by omega⟩
theorem Clear.step {s : ByteArray} {i : Nat} (h : Clear s i) (h1 : ¬ Wc (A s i)) (h2 : ¬ Bad (A s i)) : Clear s (i + 1) := fun j hj => by
  by_cases e : j = i
  · subst e; exact ⟨h1, h2⟩
  · exact h j (by omega)

theorem ret_int {k : IntKind} {a b : Int} (h : a = b) : Ending.returned (.int k a) = .returned (.int k b) := by rw [h]
theorem ret_bool {a b : Bool} (h : a = b) : Ending.returned (.bool a) = .returned (.bool b) := by rw [h]

/-- the answer, as the walk hands it on -/
def Ans (s : ByteArray) (e : Ending) : Prop := ∃ (n : Nat) (ok : Bool), e = .returned (.tuple #[.int .i64 n, .bool ok]) ∧ PN s n ok

set_option maxHeartbeats 1000000 in
theorem plainNames_any (s : ByteArray) (w : World) (hl : s.size ≤ 1048576) :
    Calls Try.prog 29 #[.string s] w fun e w' => Ans s e ∧ w' = w := by
  go_enter Try.func29, Try.ntmps29
  go_wp2
  go_loop [4, 5] (fun a b => ∃ k m : Nat, k ≤ s.size ∧ a = .int .i64 m ∧ b = .int .i64 k ∧ Hid (Clear s k) ∧ Hid (NM s k m)) (fun _ b => s.size - (intOf b).toNat)
  case atStart => exact ⟨0, 0, Nat.zero_le _, rfl, rfl, fun j hj => absurd hj (by omega), ⟨.inl rfl, fun j _ hj => absurd hj (by omega)⟩⟩
  case round =>
    obtain ⟨k, m, hk, rfl, rfl, hC, hN⟩ := hrel
    by_cases hlt : k < s.size
    · obtain ⟨c, hcc⟩ : ∃ c, ((s[k]'hlt).toNat : Int) = c := ⟨_, rfl⟩
      have HA : Hid (A s k = c) := (A_eq hlt).symm.trans hcc
      by_cases h42 : c = 42
      · have HW : Hid (Wc (A s k)) := by show Wc _; rw [HA.out]; exact .inl h42
        subst h42
        go_wp2
        go_ret2
        exact ⟨⟨_, _, rfl, .inr (.inr ⟨rfl, k, hlt, HW.out, hC.out, hN.out⟩)⟩, rfl⟩
      by_cases h63 : c = 63
      · have HW : Hid (Wc (A s k)) := by show Wc _; rw [HA.out]; exact .inr h63
        subst h63
        go_wp2
        go_ret2
        exact ⟨⟨_, _, rfl, .inr (.inr ⟨rfl, k, hlt, HW.out, hC.out, hN.out⟩)⟩, rfl⟩
      by_cases h123 : c = 123
      · have HW : Hid (Bad (A s k)) := by show Bad _; rw [HA.out]; exact .inl h123
        subst h123
        go_wp2
        go_ret2
        exact ⟨⟨0, _, rfl, .inl ⟨rfl, rfl, k, hlt, HW.out, hC.out⟩⟩, rfl⟩
      by_cases h92 : c = 92
      · have HW : Hid (Bad (A s k)) := by show Bad _; rw [HA.out]; exact .inr h92
        subst h92
        go_wp2
        go_ret2
        exact ⟨⟨0, _, rfl, .inl ⟨rfl, rfl, k, hlt, HW.out, hC.out⟩⟩, rfl⟩
      have HC1 : Hid (Clear s (k + 1)) := hC.out.step (by rw [HA.out]; unfold Wc; omega) (by rw [HA.out]; unfold Bad; omega)
      have b42 : (c == 42) = false := by simpa using h42
      have b63 : (c == 63) = false := by simpa using h63
      have b123 : (c == 123) = false := by simpa using h123
      have b92 : (c == 92) = false := by simpa using h92
      clear h42 h63 h123 h92 hC
      by_cases h47 : c = 47
      · have HN1 : Hid (NM s (k + 1) k) := NM.step_yes (by rw [HA.out]; exact h47)
        subst h47
        clear hN
        go_wp2
        go_round
        case rel => exact ⟨k + 1, k, by omega, rfl, by go_num, HC1, HN1⟩
        case measure => simp [intOf]; omega
      · have HN1 : Hid (NM s (k + 1) m) := hN.out.step_no (by rw [HA.out]; exact h47)
        have b47 : (c == 47) = false := by simpa using h47
        clear hN h47
        go_wp2
        go_round
        case rel => exact ⟨k + 1, m, by omega, rfl, by go_num, HC1, HN1⟩
        case measure => simp [intOf]; omega
    · obtain rfl : k = s.size := by omega
      go_wp2
      go_ret2
      exact ⟨⟨_, _, rfl, .inr (.inl ⟨rfl, rfl, hC.out⟩)⟩, rfl⟩

theorem zzplain_any (s : ByteArray) (w : World) (hl : s.size ≤ 1048576) :
    Calls Try.prog 16 #[.string s] w fun e w' => Ans s e ∧ w' = w := by
  go_enter Try.func16, Try.ntmps16
  go_wp2_with (go_at_call 29; go_must (refine (plainNames_any s _ hl).mono ?_; rintro e w' ⟨⟨n, ok, rfl, hPN⟩, rfl⟩))
  go_ret2
  exact ⟨⟨n, ok, rfl, hPN⟩, rfl⟩

/-- what zzpb1FirstWildcard answers -/
def AnsF (s : ByteArray) (e : Ending) : Prop := ∃ k : Nat, e = .returned (.int .i64 k) ∧ FW s k
theorem first_any (s : ByteArray) (w : World) (hl : s.size ≤ 1048576) :
    Calls Try.prog 19 #[.string s] w fun e w' => AnsF s e ∧ w' = w := by
  go_enter Try.func19, Try.ntmps19
  go_wp2
  go_loop [3] (fun b => ∃ k : Nat, k ≤ s.size ∧ b = .int .i64 k ∧ Hid (∀ i, i < k → ¬ Wc (A s i))) (fun b => s.size - (intOf b).toNat)
  case atStart => exact ⟨0, Nat.zero_le _, rfl, fun j hj => absurd hj (by omega)⟩
  case round =>
    obtain ⟨k, hk, rfl, hC⟩ := hrel
    by_cases hlt : k < s.size
    · obtain ⟨c, hcc⟩ : ∃ c, ((s[k]'hlt).toNat : Int) = c := ⟨_, rfl⟩
      have HA : Hid (A s k = c) := (A_eq hlt).symm.trans hcc
      by_cases h42 : c = 42
      · have HW : Hid (Wc (A s k)) := by show Wc _; rw [HA.out]; exact .inl h42
        subst h42
        go_wp2
        go_ret
        exact ⟨⟨k, rfl, by omega, hC.out, fun _ => HW.out⟩, rfl⟩
      by_cases h63 : c = 63
      · have HW : Hid (Wc (A s k)) := by show Wc _; rw [HA.out]; exact .inr h63
        subst h63
        go_wp2
        go_ret
        exact ⟨⟨k, rfl, by omega, hC.out, fun _ => HW.out⟩, rfl⟩
      have HC1 : Hid (∀ i, i < k + 1 → ¬ Wc (A s i)) := fun i hi => by
        by_cases e : i = k
        · subst e; rw [HA.out]; unfold Wc; omega
        · exact hC.out i (by omega)
      have b42 : (c == 42) = false := by simpa using h42
      have b63 : (c == 63) = false := by simpa using h63
      clear h42 h63 hC
      go_wp2
      go_round
      case rel => exact ⟨k + 1, by omega, by go_num, HC1⟩
      case measure => simp [intOf]; omega
    · obtain rfl : k = s.size := by omega
      go_wp2
      go_ret
      exact ⟨⟨s.size, rfl, Nat.le_refl _, hC.out, fun h => absurd h hlt⟩, rfl⟩

theorem zzBytes_yes (s : ByteArray) (w : World) (hl : s.size ≤ 1048576) : Calls Try.prog 18 #[.string s] w fun e w' => e = .returned (.bool true) ∧ w' = w := by
  go_enter Try.func18, Try.ntmps18
  go_wp2
  go_ret
  exact ⟨rfl, rfl⟩
theorem zzBytes_no (s : ByteArray) (w : World) (hl : 1048576 < s.size) : Calls Try.prog 18 #[.string s] w fun e w' => e = .returned (.bool false) ∧ w' = w := by
  go_enter Try.func18, Try.ntmps18
  go_wp2
  go_ret
  exact ⟨rfl, rfl⟩
end Go.Proofs.Qxb6600191a.Nm
