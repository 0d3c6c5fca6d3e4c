/-
  The contracts of zzG2HexClass and zzG2LowerHexClass.
-/
import Derived.Test.Qxb6001665aLowerHex
import Derived.WalkKit
namespace Go.Proofs.Qxb6001665a.Lh
open Go.RowKit

/-- the two tables -/
abbrev tabA : ByteArray := { data := #[48, 49, 50, 51, 52, 53, 54, 55, 56, 57, 97, 98, 99, 100, 101, 102, 65, 66, 67, 68, 69, 70] }
abbrev tabL : ByteArray := { data := #[48, 49, 50, 51, 52, 53, 54, 55, 56, 57, 97, 98, 99, 100, 101, 102] }
/-- a hex digit in either case; in lower case -/
def hexA (c : Int) : Bool := decide ((48 ≤ c ∧ c ≤ 57) ∨ (97 ≤ c ∧ c ≤ 102) ∨ (65 ≤ c ∧ c ≤ 70))
def hexL (c : Int) : Bool := decide ((48 ≤ c ∧ c ≤ 57) ∨ (97 ≤ c ∧ c ≤ 102))

theorem sizeA : tabA.size = 22 := rfl
theorem sizeL : tabL.size = 16 := rfl
set_option maxRecDepth 20000 in
theorem hitA : ∀ k : Fin 22, hexA ((tabA[k.val]'(by rw [sizeA]; exact k.isLt)).toNat : Int) = true := by decide
set_option maxRecDepth 20000 in
theorem hitL : ∀ k : Fin 16, hexL ((tabL[k.val]'(by rw [sizeL]; exact k.isLt)).toNat : Int) = true := by decide
set_option maxRecDepth 20000 in
theorem allA : ∀ c : Fin 256, hexA (c.val : Int) = true → ∃ k : Fin 22, ((tabA[k.val]'(by rw [sizeA]; exact k.isLt)).toNat) = c.val := by decide
set_option maxRecDepth 20000 in
theorem allL : ∀ c : Fin 256, hexL (c.val : Int) = true → ∃ k : Fin 16, ((tabL[k.val]'(by rw [sizeL]; exact k.isLt)).toNat) = c.val := by decide

theorem missA {c : Int} (h0 : 0 ≤ c) (h1 : c ≤ 255) (h : ∀ (k : Nat) (hk : k < tabA.size), ((tabA[k].toNat : Int) == c) = false) : hexA c = false := by
  cases e : hexA c with
  | false => rfl
  | true =>
    obtain ⟨n, rfl⟩ := Int.eq_ofNat_of_zero_le h0
    obtain ⟨k, hk⟩ := allA ⟨n, by omega⟩ e
    have := h k.val (by rw [sizeA]; exact k.isLt)
    rw [hk] at this
    simp at this
theorem missL {c : Int} (h0 : 0 ≤ c) (h1 : c ≤ 255) (h : ∀ (k : Nat) (hk : k < tabL.size), ((tabL[k].toNat : Int) == c) = false) : hexL c = false := by
  cases e : hexL c with
  | false => rfl
  | true =>
    obtain ⟨n, rfl⟩ := Int.eq_ofNat_of_zero_le h0
    obtain ⟨k, hk⟩ := allL ⟨n, by omega⟩ e
    have := h k.val (by rw [sizeL]; exact k.isLt)
    rw [hk] at this
    simp at this
theorem foundA {c : Int} {k : Nat} {hk : k < tabA.size} (h : ((tabA[k].toNat : Int) == c) = true) : hexA c = true := by
  rw [← (beq_iff_eq.1 h)]; exact hitA ⟨k, by rw [← sizeA]; exact hk⟩
theorem foundL {c : Int} {k : Nat} {hk : k < tabL.size} (h : ((tabL[k].toNat : Int) == c) = true) : hexL c = true := by
  rw [← (beq_iff_eq.1 h)]; exact hitL ⟨k, by rw [← sizeL]; exact hk⟩

theorem hexClass_any (c : Int) (h0 : 0 ≤ c) (h1 : c ≤ 255) (w : World) :
    Calls Try.prog 23 #[.int .u8 c] w fun e w' => e = .returned (.bool (hexA c)) ∧ w' = w := by
  go_enter Try.func23, Try.ntmps23
  go_wp2
  go_loop [3] (fun n => ∃ k : Nat, k ≤ 22 ∧ n = .int .i64 k ∧ Hid (∀ (i : Nat) (hi : i < tabA.size), i < k → ((tabA[i].toNat : Int) == c) = false)) (fun n => 22 - (intOf n).toNat)
  case atStart => exact ⟨0, Nat.zero_le _, rfl, fun i _ hi => absurd hi (by omega)⟩
  case round =>
    obtain ⟨k, hk, rfl, hp⟩ := hrel
    by_cases hlt : k < 22
    · have hks : k < tabA.size := by rw [sizeA]; exact hlt
      cases ht : ((tabA[k].toNat : Int) == c)
      · go_wp2
        go_round
        case rel =>
          refine ⟨k + 1, by omega, by go_num, fun i hi hik => ?_⟩
          rcases Nat.lt_succ_iff_lt_or_eq.1 hik with h | h
          · exact hp.out i hi h
          · subst h; exact ht
        case measure => simp [intOf]; omega
      · go_wp2
        go_ret
        exact ⟨ret_bool (foundA ht).symm, rfl⟩
    · go_wp2
      go_ret
      exact ⟨ret_bool (missA h0 h1 (fun i hi => hp.out i hi (by rw [sizeA] at hi; omega))).symm, rfl⟩

theorem lowerHexClass_any (c : Int) (h0 : 0 ≤ c) (h1 : c ≤ 255) (w : World) :
    Calls Try.prog 24 #[.int .u8 c] w fun e w' => e = .returned (.bool (hexL c)) ∧ w' = w := by
  go_enter Try.func24, Try.ntmps24
  go_wp2
  go_loop [3] (fun n => ∃ k : Nat, k ≤ 16 ∧ n = .int .i64 k ∧ Hid (∀ (i : Nat) (hi : i < tabL.size), i < k → ((tabL[i].toNat : Int) == c) = false)) (fun n => 16 - (intOf n).toNat)
  case atStart => exact ⟨0, Nat.zero_le _, rfl, fun i _ hi => absurd hi (by omega)⟩
  case round =>
    obtain ⟨k, hk, rfl, hp⟩ := hrel
    by_cases hlt : k < 16
    · have hks : k < tabL.size := by rw [sizeL]; exact hlt
      cases ht : ((tabL[k].toNat : Int) == c)
      · go_wp2
        go_round
        case rel =>
          refine ⟨k + 1, by omega, by go_num, fun i hi hik => ?_⟩
          rcases Nat.lt_succ_iff_lt_or_eq.1 hik with h | h
          · exact hp.out i hi h
          · subst h; exact ht
        case measure => simp [intOf]; omega
      · go_wp2
        go_ret
        exact ⟨ret_bool (foundL ht).symm, rfl⟩
    · go_wp2
      go_ret
      exact ⟨ret_bool (missL h0 h1 (fun i hi => hp.out i hi (by rw [sizeL] at hi; omega))).symm, rfl⟩

/-- folding keeps what is a hex digit -/
theorem hex_fold (c : Int) : hexA c = hexL (lh c) := by
  unfold hexA hexL lh
  rw [Bool.eq_iff_iff]; simp only [decide_eq_true_iff]
  split <;> omega
theorem lh_lh (c : Int) : lh (lh c) = lh c := by
  unfold lh; repeat' split <;> omega
theorem lh_bd {c : Int} (h0 : 0 ≤ c) (h1 : c ≤ 255) : 0 ≤ lh c ∧ lh c ≤ 255 := by
  unfold lh; split <;> omega
end Go.Proofs.Qxb6001665a.Lh
