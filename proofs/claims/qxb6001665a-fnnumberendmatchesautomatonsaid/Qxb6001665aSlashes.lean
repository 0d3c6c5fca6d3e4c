/-
  A slice of bytes as the walks read it; the contracts of redact.backslashes and redact.ZZBackslashes.
-/
import Derived.Test.Qxb6001665aRows
import Derived.WalkKit
namespace Go.Proofs.Qxb6001665a.By
open Go.RowKit

/-- the bytes 'zs' lie at the address (of an empty slice nothing is asked) -/
def Bs (w : World) (ao : Option Addr) (zs : List Int) : Prop :=
  zs = [] ∨ ∃ b off, ao = some ⟨b, off, none⟩ ∧ ∀ i, i < zs.length → w.cell? ⟨b, off + i, none⟩ = some (.int .u8 (zs.getD i 0))

/-- how many backslashes a text begins with -/
def lead : List Int → Nat
  | [] => 0
  | c :: r => if c = 92 then lead r + 1 else 0

theorem lead_le : ∀ zs : List Int, lead zs ≤ zs.length
  | [] => Nat.le_refl _
  | c :: r => by unfold lead; have := lead_le r; split <;> simp <;> omega
theorem lead_at : ∀ (zs : List Int) (i : Nat), i < lead zs → zs.getD i 0 = 92
  | [], i, h => by simp [lead] at h
  | c :: r, 0, h => by
    by_cases hc : c = 92
    · simpa using hc
    · simp [lead, hc] at h
  | c :: r, i + 1, h => by
    by_cases hc : c = 92
    · simp only [lead, if_pos hc] at h
      simpa using lead_at r i (by omega)
    · simp [lead, hc] at h
theorem lead_end : ∀ (zs : List Int), lead zs < zs.length → zs.getD (lead zs) 0 ≠ 92
  | [], h => by simp [lead] at h
  | c :: r, h => by
    by_cases hc : c = 92
    · simp only [lead, if_pos hc] at h ⊢
      simpa using lead_end r (by simpa using h)
    · simp [lead, hc]
/-- the number is known by its two properties -/
theorem lead_eq : ∀ (zs : List Int) (k : Nat), k ≤ zs.length → (∀ i, i < k → zs.getD i 0 = 92) → (k < zs.length → zs.getD k 0 ≠ 92) → lead zs = k
  | [], k, hk, _, _ => by simp at hk; subst hk; rfl
  | c :: r, 0, _, _, he => by
    have : c ≠ 92 := by simpa using he (by simp)
    simp [lead, this]
  | c :: r, k + 1, hk, hp, he => by
    have h0 : c = 92 := by simpa using hp 0 (by omega)
    have ih := lead_eq r k (by simpa using hk) (fun i hi => by simpa using hp (i + 1) (by omega)) (fun h => by simpa using he (by simpa using h))
    simp [lead, h0, ih]
theorem lead_append (n : Nat) (zs : List Int) : lead (List.replicate n 92 ++ zs) = n + lead zs := by
  induction n with
  | zero => simp
  | succ n ih => rw [List.replicate_succ, List.cons_append]; simp only [lead, if_true]; omega

theorem ret_int {k : IntKind} {a b : Int} (h : a = b) : Ending.returned (.int k a) = .returned (.int k b) := by rw [h]
theorem ret_bool {a b : Bool} (h : a = b) : Ending.returned (.bool a) = .returned (.bool b) := by rw [h]

theorem backslashes_any (ao : Option Addr) (cap : Nat) (zs : List Int) (w : World) (hz : Bs w ao zs) (hl : zs.length ≤ 1073741824) :
    Calls Try.prog 38 #[.slice ao zs.length cap] w fun e w' => e = .returned (.int .i64 (lead zs)) ∧ w' = w := by
  go_enter Try.func38, Try.ntmps38
  go_wp2
  go_loop [3] (fun n => ∃ k : Nat, k ≤ zs.length ∧ n = .int .i64 k ∧ Hid (∀ i, i < k → zs.getD i 0 = 92)) (fun n => zs.length - (intOf n).toNat)
  case atStart => exact ⟨0, Nat.zero_le _, rfl, fun i hi => absurd hi (by omega)⟩
  case round =>
    obtain ⟨k, hk, rfl, hp⟩ := hrel
    by_cases hlt : k < zs.length
    · rcases hz with h | ⟨b, off, rfl, hc⟩
      · simp [h] at hlt
      · have hck := hc k hlt
        obtain ⟨c, hcd⟩ : ∃ c, c = zs.getD k 0 := ⟨_, rfl⟩
        rw [← hcd] at hck
        have HC : Hid (c = zs.getD k 0) := hcd
        clear hc hcd
        by_cases h92 : c = 92
        · subst h92
          go_wp2
          go_round
          case rel => exact ⟨k + 1, by omega, by go_num, fun i hi => by
            rcases Nat.lt_succ_iff_lt_or_eq.1 hi with h | h
            · exact hp.out i h
            · rw [h]; exact HC.out.symm⟩
          case measure => simp [intOf]; omega
        · have hne : (c == 92) = false := by simpa using h92
          go_wp2
          go_ret
          exact ⟨ret_int (by rw [lead_eq zs k hk hp.out (fun _ => by rw [← HC.out]; exact h92)]), rfl⟩
    · clear hz
      go_wp2
      go_ret
      exact ⟨ret_int (by rw [lead_eq zs k hk hp.out (fun h => absurd h hlt)]), rfl⟩

theorem zzBackslashes_any (ao : Option Addr) (cap : Nat) (zs : List Int) (w : World) (hz : Bs w ao zs) (hl : zs.length ≤ 1073741824) :
    Calls Try.prog 15 #[.slice ao zs.length cap] w fun e w' => e = .returned (.int .i64 (lead zs)) ∧ w' = w := by
  go_enter Try.func15, Try.ntmps15
  go_wp2_with (go_at_call 38; refine (backslashes_any _ _ _ _ hz hl).mono ?_; rintro e w' ⟨rfl, rfl⟩)
  go_ret
  exact ⟨rfl, rfl⟩
end Go.Proofs.Qxb6001665a.By
