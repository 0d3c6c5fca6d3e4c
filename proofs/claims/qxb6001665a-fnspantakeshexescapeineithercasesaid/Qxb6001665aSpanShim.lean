/-
  The contracts of ZZSpellingSpan, zzG2HexLower and zzG2HexUpper.
-/
import Derived.Test.Qxb6001665aSpan
import Derived.Test.Qxb6001665aHexClass
import Derived.WalkKit
import Derived.WalkSpells
namespace Go.Proofs.Qxb6001665a.Sp
open Go.RowKit

/-- a cell that is there lies in a block that is there -/
theorem block_lt {w : World} {b o : Nat} {v : Value} (h : w.cell? ⟨b, o, none⟩ = some v) : b < w.heap.size := by
  unfold World.cell? at h
  by_cases hb' : b < w.heap.size
  · exact hb'
  · rw [Array.getElem?_eq_none (by simpa using hb')] at h; simp at h

set_option maxRecDepth 10000 in
theorem zzspan_any (T : ByteArray) (hT : T.size = 6) (b off n cap : Nat) (h6 : 6 ≤ n) (h7 : n ≤ 7) (hc : n ≤ cap) (hcm : cap ≤ 1000) (w : World)
    (zs : List Int) (hzn : n = zs.length) (hcells : ∀ i, i < n → w.cell? ⟨b, off + i, none⟩ = some (.int .u8 (zs.getD i 0)))
    (hbd : ∀ i, i < n → 0 ≤ zs.getD i 0 ∧ zs.getD i 0 ≤ 255)
    (hT0 : ∀ h : 0 < T.size, ((T[0]'h).toNat : Int) = 92) (hz0 : zs.getD 0 0 = 92) (hlead : By.lead zs = 1)
    (hTk : ∀ (k : Nat) (h : k < T.size), 1 ≤ k → ((T[k]'h).toNat : Int) ≠ 92 ∧ Lh.lh (zs.getD k 0) = ((T[k]'h).toNat : Int)) :
    Calls Try.prog 27 #[.string T, .bool true, .slice (some ⟨b, off, none⟩) n cap] w fun e w' => e = .returned (.tuple #[.int .i64 6, .int .i64 6, .bool false]) ∧ Below w.heap.size w w' := by
  have hbl : b < w.heap.size := block_lt (hcells 0 (by omega))
  have hcells' : ∀ o : Obj, ∀ i, i < n → (w.alloc o).cell? ⟨b, off + i, none⟩ = some (.int .u8 (zs.getD i 0)) := fun o i hi => by
    rw [((Below.refl w.heap.size w).alloc (Nat.le_refl _) o).cell (by exact hbl)]; exact hcells i hi
  have hsp := span_any T hT w.heap.size b off n cap h6 h7 hc hcm (w.alloc (.cells #[.string T, .bool true] 52)) (by simp) (by simp) (strOfNums (zs.take 6))
    (fun nq => run_convert_bytes_arg _ 22 5 Try.underlying22 Try.underlying5 b off 6 cap (zs.take 6) (by simp; omega)
      (fun i hi => by
        have h1 := hcells' (.cells #[.string T, .bool true] 52) i (by omega)
        rw [World.cell?_drewN, h1]; simp [hi]) 9 Try.underlying9)
    zs hzn (hcells' _) hbd hT0 hz0 hlead hTk
  have HS := hsp
  clear hcells hcells' hbd hT0 hz0 hlead hTk hzn hsp
  go_enter Try.func27, Try.ntmps27
  go_wp2_with (go_at_call 42; go_must (refine HS.mono ?_; rintro e w' ⟨rfl, nq, rfl⟩))
  go_ret3
  have hb := (Below.refl w.heap.size w).alloc (Nat.le_refl _) (.cells #[.string T, .bool true] 52)
  exact ⟨rfl, ⟨hb.os, hb.tape, hb.output, hb.size, hb.block⟩⟩

/-- the second table -/
abbrev tabU : ByteArray := { data := #[48, 49, 50, 51, 52, 53, 54, 55, 56, 57, 65, 66, 67, 68, 69, 70] }
theorem sizeU : tabU.size = 16 := rfl
/-- what the two tables give at a nibble -/
def tl (k : Fin 16) : Nat := (Lh.tabL[k.val]'(by rw [Lh.sizeL]; exact k.isLt)).toNat
def tu (k : Fin 16) : Nat := (tabU[k.val]'(by rw [sizeU]; exact k.isLt)).toNat
theorem nib (n : Int) : (n % 16).toNat < 16 := by omega
def hl (n : Int) : Int := (tl ⟨(n % 16).toNat, nib n⟩ : Int)
def hu (n : Int) : Int := (tu ⟨(n % 16).toNat, nib n⟩ : Int)

/-- x is what stands in the text, y what stands in the spelling -/
def Fits (x y : Int) : Prop := (0 ≤ x ∧ x ≤ 255) ∧ (0 ≤ y ∧ y ≤ 255) ∧ Lh.lh x = y ∧ y ≠ 92

theorem lh_nat (n : Nat) : Lh.lh (n : Int) = ((if 65 ≤ n ∧ n ≤ 70 then n + 32 else n : Nat) : Int) := by
  unfold Lh.lh; split <;> split <;> omega
theorem fitsL : ∀ k : Fin 16, tl k ≤ 255 ∧ (if 65 ≤ tl k ∧ tl k ≤ 70 then tl k + 32 else tl k) = tl k ∧ tl k ≠ 92 := by decide
theorem fitsU : ∀ k : Fin 16, tu k ≤ 255 ∧ (if 65 ≤ tu k ∧ tu k ≤ 70 then tu k + 32 else tu k) = tl k := by decide
theorem hl_fits (n : Int) : Fits (hl n) (hl n) := by
  have h := fitsL ⟨(n % 16).toNat, nib n⟩
  unfold Fits hl
  rw [lh_nat, h.2.1]
  omega
theorem hu_fits (n : Int) : Fits (hu n) (hl n) := by
  have h := fitsL ⟨(n % 16).toNat, nib n⟩
  have g := fitsU ⟨(n % 16).toNat, nib n⟩
  unfold Fits hl hu
  rw [lh_nat, g.2]
  omega

theorem hexLower_any (n : Int) (h0 : 0 ≤ n) (h1 : n ≤ 255) (w : World) :
    Calls Try.prog 25 #[.int .u8 n] w fun e w' => e = .returned (.int .u8 (hl n)) ∧ w' = w := by
  go_enter Try.func25, Try.ntmps25
  go_wp2
  go_ret
  exact ⟨rfl, rfl⟩
theorem hexUpper_any (n : Int) (h0 : 0 ≤ n) (h1 : n ≤ 255) (w : World) :
    Calls Try.prog 26 #[.int .u8 n] w fun e w' => e = .returned (.int .u8 (hu n)) ∧ w' = w := by
  go_enter Try.func26, Try.ntmps26
  go_wp2
  go_ret
  exact ⟨rfl, rfl⟩
end Go.Proofs.Qxb6001665a.Sp
