/-
  The contracts of strictjson.numberEnd and ZZNumberEnd.
-/
import Derived.Test.Qxb6001665aNumStep
import Derived.WalkKit
import Derived.WalkSpells
import Derived.Deep.DeepCutAuto
import Derived.Deep.CutBlock
namespace Go.Proofs.Qxb6001665a.Num
open Go.RowKit
set_option linter.unusedVariables false
set_option linter.unusedSimpArgs false

theorem isAt_in {zs : List Int} {i : Nat} {p : Int → Bool} {c : Int} (h : i < zs.length) (hc : c = at' zs i) : isAt zs i p = p c := by simp [isAt, h, hc]
theorem isAt_out {zs : List Int} {i : Nat} {p : Int → Bool} (h : ¬ i < zs.length) : isAt zs i p = false := by simp [isAt, h]

theorem ret_pair {p : Int × Bool} {x : Int} {y : Bool} (h : p = (x, y)) : Ending.returned (.tuple #[.int .i64 x, .bool y]) = .returned (.tuple #[.int .i64 p.1, .bool p.2]) := by rw [h]

theorem digitsEnd_at (ao : Option Addr) (cap : Nat) (zs : List Int) (k : Nat) (q : Int) (w : World) (hq : q = (k : Int)) (hz : By.Bs w ao zs) (hl : zs.length ≤ 1073741824) (hk : k ≤ zs.length) :
    Calls Try.prog 50 #[.slice ao zs.length cap, .int .i64 q] w fun e w' => e = .returned (.int .i64 (dEnd zs k : Nat)) ∧ w' = w := by
  subst hq; exact digitsEnd_any ao cap zs k w hz hl hk

/-- inside the digits stand digits -/
theorem dEnd_in (zs : List Int) : ∀ (n i m : Nat), zs.length - i ≤ n → i ≤ m → m < dEnd zs i → dg (at' zs m) = true
  | 0, i, m, h, h1, h2 => by rw [dEnd_end zs i (by omega)] at h2; omega
  | n + 1, i, m, h, h1, h2 => by
    cases hd : isAt zs i dg with
    | false => rw [dEnd_no hd] at h2; omega
    | true =>
      by_cases e : m = i
      · subst e; exact (isAt_true.1 hd).2
      · rw [dEnd_dg hd] at h2
        exact dEnd_in zs n (i + 1) m (by have := (isAt_true.1 hd).1; omega) (by omega) h2

set_option maxHeartbeats 2000000 in
set_option maxRecDepth 10000 in
theorem numberEnd_some (b off cap : Nat) (zs : List Int) (s : Nat) (w : World) (hc : ∀ i, i < zs.length → w.cell? ⟨b, off + i, none⟩ = some (.int .u8 (zs.getD i 0))) (hl : zs.length ≤ 1073741824) (hs : s ≤ zs.length) :
    Calls Try.prog 45 #[.slice (some ⟨b, off, none⟩) zs.length cap, .int .i64 s] w fun e w' => e = .returned (.tuple #[.int .i64 (ans (numE zs s)).1, .bool (ans (numE zs s)).2]) ∧ w' = w := by
  obtain ⟨P, hP⟩ : ∃ P, P = ans (numE zs s) := ⟨_, rfl⟩
  rw [← hP]
  have HC : Hid (∀ i, i < zs.length → ∃ c, w.cell? ⟨b, off + i, none⟩ = some (.int .u8 c) ∧ Hid (c = at' zs i)) := fun i hi => ⟨_, hc i hi, rfl⟩
  obtain ⟨B0, hB0⟩ : ∃ B, B = isAt zs s (· == 45) := ⟨_, rfl⟩
  have HP : Hid (P = ans (sgnE zs (if B0 = true then s + 1 else s))) := by rw [hP, hB0]; rfl
  have HB0 : Hid (B0 = isAt zs s (· == 45)) := hB0
  clear hP hB0 hc
  go_enter Try.func45, Try.ntmps45
  go_upto_region 2 with fail
  go_cut [19] (fun t wc => t = .bool B0 ∧ wc = w)
  case first =>
    by_cases hlt : s < zs.length
    · obtain ⟨c, hck, hca⟩ := HC.out s hlt
      go_wp2
      go_meet
      case rel => exact ⟨congrArg Value.bool (by rw [HB0.out, isAt_in hlt hca.out]), rfl⟩
    · go_wp2
      go_meet
      case rel => exact ⟨congrArg Value.bool (by rw [HB0.out, isAt_out hlt]), rfl⟩
  case rest =>
  obtain ⟨rfl, rfl⟩ := hcut
  go_upto_if 19 with fail
  obtain ⟨j, hj⟩ : ∃ j, j = (if B0 = true then s + 1 else s) := ⟨_, rfl⟩
  rw [← hj] at HP
  have hjl : j ≤ zs.length := by
    rw [hj]; split
    · rename_i h; rw [h] at HB0; have := (isAt_true.1 HB0.out.symm).1; omega
    · exact hs
  have HJ : Hid (j = (if B0 = true then s + 1 else s)) := hj
  clear hj HB0
  go_cut [6] (fun i wd => i = .int .i64 j ∧ wd = wc)
  case first =>
    cases B0
    · go_wp2
      go_meet
      case rel => exact ⟨by rw [HJ.out]; rfl, rfl⟩
    · go_wp2
      go_meet
      case rel => exact ⟨by rw [HJ.out]; go_num, rfl⟩
  case rest =>
  obtain ⟨rfl, rfl⟩ := hcut
  clear HJ
  have HZ : Hid (By.Bs wc (some ⟨b, off, none⟩) zs) := .inr ⟨b, off, rfl, fun i hi => by
    obtain ⟨c, h1, h2⟩ := HC.out i hi
    rw [h1, h2.out]; rfl⟩
  go_upto_block 0 with fail
  go_cut [6] (fun i wd => ∃ k : Nat, k ≤ zs.length ∧ i = .int .i64 k ∧ wd = wc ∧ Hid (P = ans (intE zs k)))
  case first =>
    by_cases hlt : j < zs.length
    · obtain ⟨c, hck, hca⟩ := HC.out j hlt
      by_cases h48 : c = 48
      · have HN : Hid (P = ans (intE zs (j + 1))) := by
          show P = _; rw [HP.out]; unfold sgnE; rw [if_pos (by rw [isAt_in hlt hca.out, h48]; rfl)]
        clear HP hca
        subst h48
        go_wp2
        go_meet
        case rel => exact ⟨j + 1, by omega, by go_num, rfl, HN⟩
      · have hn48 : isAt zs j (· == 48) ≠ true := by rw [isAt_in hlt hca.out]; simpa using h48
        by_cases hdg : 49 ≤ c ∧ c ≤ 57
        · obtain ⟨h49, h57⟩ := hdg
          have HN : Hid (P = ans (intE zs (dEnd zs j))) := by
            show P = _; rw [HP.out]; unfold sgnE; rw [if_neg hn48, if_pos (by rw [isAt_in hlt hca.out]; exact dg_iff.2 ⟨by omega, h57⟩)]
          have hde := dEnd_le zs j hjl
          have hb48 : (c == 48) = false := by simpa using h48
          clear HP hca hn48 h48
          go_wp2_with (go_at_call 50; go_must (refine (digitsEnd_any _ _ _ _ _ HZ.out hl hjl).mono ?_; rintro e w' ⟨rfl, rfl⟩))
          go_meet
          case rel => exact ⟨dEnd zs j, hde, rfl, rfl, HN⟩
        · have HN : Hid (P = (0, false)) := by
            rw [HP.out]; unfold sgnE
            rw [if_neg hn48, if_neg (by rw [isAt_in hlt hca.out, dg_iff]; omega)]; rfl
          have hb48 : (c == 48) = false := by simpa using h48
          clear HP hca hn48
          by_cases h49 : 49 ≤ c
          · have h57 : ¬ c ≤ 57 := by omega
            clear hdg h48
            go_wp2
            go_ret2
            exact ⟨ret_pair HN.out, rfl⟩
          · clear hdg h48
            go_wp2
            go_ret2
            exact ⟨ret_pair HN.out, rfl⟩
    · have HN : Hid (P = (0, false)) := by
        rw [HP.out]; unfold sgnE
        rw [if_neg (by rw [isAt_out hlt]; exact Bool.false_ne_true), if_neg (by rw [isAt_out hlt]; exact Bool.false_ne_true)]; rfl
      clear HP
      go_wp2
      go_ret2
      exact ⟨ret_pair HN.out, rfl⟩
  case rest =>
  clear HP hjl
  obtain ⟨k, hk, rfl, rfl, HP⟩ := hcut
  -- the fraction's test
  obtain ⟨B1, hB1⟩ : ∃ B, B = isAt zs k (· == 46) := ⟨_, rfl⟩
  have HB1 : Hid (B1 = isAt zs k (· == 46)) := hB1
  clear hB1
  go_upto_region 9 with fail
  go_cut [68] (fun t wd => t = .bool B1 ∧ wd = wc)
  case first =>
    by_cases hlt : k < zs.length
    · obtain ⟨c, hck, hca⟩ := HC.out k hlt
      go_wp2
      go_meet
      case rel => exact ⟨congrArg Value.bool (by rw [HB1.out, isAt_in hlt hca.out]), rfl⟩
    · go_wp2
      go_meet
      case rel => exact ⟨congrArg Value.bool (by rw [HB1.out, isAt_out hlt]), rfl⟩
  case rest =>
  obtain ⟨rfl, rfl⟩ := hcut
  go_upto_if 68 with fail
  go_cut [6] (fun i wd => ∃ m : Nat, m ≤ zs.length ∧ i = .int .i64 m ∧ wd = wc ∧ Hid (P = ans (fracE zs m)))
  case first =>
    cases B1
    · have HN : Hid (P = ans (fracE zs k)) := by
        show P = _; rw [HP.out]; unfold intE; rw [if_neg (by rw [← HB1.out]; exact Bool.false_ne_true)]
      clear HP
      go_wp2
      go_meet
      case rel => exact ⟨k, hk, rfl, rfl, HN⟩
    · obtain ⟨hlt, h46⟩ := isAt_true.1 HB1.out.symm
      have h46' : at' zs k = 46 := by simpa using h46
      have hge := dEnd_ge zs (k + 1)
      have hde := dEnd_le zs (k + 1) (by omega)
      obtain ⟨m, hm⟩ : ∃ m, dEnd zs (k + 1) = m + 1 := ⟨dEnd zs (k + 1) - 1, by omega⟩
      rw [hm] at hge hde
      have hmlt : m < zs.length := by omega
      obtain ⟨c, hck, hca⟩ := HC.out m hmlt
      by_cases hmk : m = k
      · subst hmk
        have HN : Hid (P = (0, false)) := by
          show P = _; rw [HP.out]; unfold intE; rw [if_pos HB1.out.symm, if_pos hm]; rfl
        obtain rfl : c = 46 := by rw [hca.out]; exact h46'
        clear HP HB1 hca h46 h46'
        go_wp2_with (go_at_call 50; go_must (refine (digitsEnd_at _ _ _ (m + 1) _ _ (by omega) HZ.out hl (by omega)).mono ?_; rintro e w' ⟨rfl, rfl⟩))
        go_ret2
        exact ⟨ret_pair HN.out, rfl⟩
      · have HN : Hid (P = ans (fracE zs (m + 1))) := by
          show P = _; rw [HP.out]; unfold intE; rw [if_pos HB1.out.symm, if_neg (by rw [hm]; omega), hm]
        have hdgc : dg c = true := by rw [hca.out]; exact dEnd_in zs (zs.length - (k + 1)) (k + 1) m (Nat.le_refl _) (by omega) (by rw [hm]; omega)
        have hc46 : (c == 46) = false := by
          have := dg_iff.1 hdgc
          simp; omega
        clear HP HB1 hca h46 h46' hdgc
        go_wp2_with (go_at_call 50; go_must (refine (digitsEnd_at _ _ _ (k + 1) _ _ (by omega) HZ.out hl (by omega)).mono ?_; rintro e w' ⟨rfl, rfl⟩))
        go_meet
        case rel => exact ⟨m + 1, by omega, by go_num, rfl, HN⟩
  case rest =>
  clear HP hk HB1
  obtain ⟨m, hm, rfl, rfl, HP⟩ := hcut
  -- the exponent's test
  obtain ⟨B2, hB2⟩ : ∃ B, B = isAt zs m ex := ⟨_, rfl⟩
  have HB2 : Hid (B2 = isAt zs m ex) := hB2
  clear hB2
  go_upto_region 13 with fail
  go_cut [96] (fun t wd => t = .bool B2 ∧ wd = wc)
  case first =>
    by_cases hlt : m < zs.length
    · obtain ⟨c, hck, hca⟩ := HC.out m hlt
      have HX : Hid (B2 = decide (c = 101 ∨ c = 69)) := by show B2 = _; rw [HB2.out, isAt_in hlt hca.out]; rfl
      go_wp2
      all_goals
        go_meet
        case rel => exact ⟨congrArg Value.bool (by rw [HX.out]; rw [Bool.eq_iff_iff]; simp [*]), rfl⟩
    · go_wp2
      go_meet
      case rel => exact ⟨congrArg Value.bool (by rw [HB2.out, isAt_out hlt]), rfl⟩
  case rest =>
  obtain ⟨rfl, rfl⟩ := hcut
  cases B2
  · have HN : Hid (P = ((m : Int), true)) := by
      show P = _; rw [HP.out]; unfold fracE; rw [if_neg (by rw [← HB2.out]; exact Bool.false_ne_true)]; rfl
    clear HP HB2
    go_wp2
    go_ret2
    exact ⟨ret_pair HN.out, rfl⟩
  · obtain ⟨hlt, hex⟩ := isAt_true.1 HB2.out.symm
    have HQ : Hid (P = ans (expE zs (m + 1))) := by
      show P = _; rw [HP.out]; unfold fracE; rw [if_pos HB2.out.symm]
    clear HP HB2 hex
    have HP := HQ
    clear HQ
    by_cases hl1 : m + 1 < zs.length
    · obtain ⟨c, hck, hca⟩ := HC.out (m + 1) hl1
      by_cases h43 : c = 43
      · have hsg : isAt zs (m + 1) sg = true := by rw [isAt_in hl1 hca.out, h43]; rfl
        subst h43
        have HN : Hid (P = ans (if dEnd zs (m + 1 + 1) = (m + 1 + 1) then none else some (dEnd zs (m + 1 + 1)))) := by
          show P = _; rw [HP.out]; unfold expE; simp only [hsg, if_true, if_false, Bool.false_eq_true]
        clear HP
        by_cases hd : dEnd zs (m + 1 + 1) = (m + 1 + 1)
        · rw [if_pos hd] at HN
          go_wp2_with (go_at_call 50; go_must (refine (digitsEnd_at _ _ _ (m + 1 + 1) _ _ (by omega) HZ.out hl (by omega)).mono ?_; rintro e w' ⟨rfl, rfl⟩))
          go_ret2
          exact ⟨ret_pair HN.out, rfl⟩
        · rw [if_neg hd] at HN
          have hge := dEnd_ge zs (m + 1 + 1)
          obtain ⟨q, hq⟩ : ∃ q, q = dEnd zs (m + 1 + 1) := ⟨_, rfl⟩
          rw [← hq] at hd hge HN
          have hq' := hq.symm
          clear hq
          have hne : ((q : Int) == (((m + 1 + 1) : Nat) : Int)) = false := by simp; omega
          go_wp2_with (go_at_call 50; go_must (refine (digitsEnd_at _ _ _ (m + 1 + 1) _ _ (by omega) HZ.out hl (by omega)).mono ?_; rintro e w' ⟨rfl, rfl⟩))
          go_ret2
          exact ⟨ret_pair HN.out, rfl⟩
      · by_cases h45 : c = 45
        · have hsg : isAt zs (m + 1) sg = true := by rw [isAt_in hl1 hca.out, h45]; rfl
          subst h45
          have HN : Hid (P = ans (if dEnd zs (m + 1 + 1) = (m + 1 + 1) then none else some (dEnd zs (m + 1 + 1)))) := by
            show P = _; rw [HP.out]; unfold expE; simp only [hsg, if_true, if_false, Bool.false_eq_true]
          clear HP
          by_cases hd : dEnd zs (m + 1 + 1) = (m + 1 + 1)
          · rw [if_pos hd] at HN
            go_wp2_with (go_at_call 50; go_must (refine (digitsEnd_at _ _ _ (m + 1 + 1) _ _ (by omega) HZ.out hl (by omega)).mono ?_; rintro e w' ⟨rfl, rfl⟩))
            go_ret2
            exact ⟨ret_pair HN.out, rfl⟩
          · rw [if_neg hd] at HN
            have hge := dEnd_ge zs (m + 1 + 1)
            obtain ⟨q, hq⟩ : ∃ q, q = dEnd zs (m + 1 + 1) := ⟨_, rfl⟩
            rw [← hq] at hd hge HN
            have hq' := hq.symm
            clear hq
            have hne : ((q : Int) == (((m + 1 + 1) : Nat) : Int)) = false := by simp; omega
            go_wp2_with (go_at_call 50; go_must (refine (digitsEnd_at _ _ _ (m + 1 + 1) _ _ (by omega) HZ.out hl (by omega)).mono ?_; rintro e w' ⟨rfl, rfl⟩))
            go_ret2
            exact ⟨ret_pair HN.out, rfl⟩
        · have hsg : isAt zs (m + 1) sg = false := by
            rw [isAt_in hl1 hca.out]; unfold sg; exact decide_eq_false (by omega)
          have hb43 : (c == 43) = false := by simpa using h43
          have hb45 : (c == 45) = false := by simpa using h45
          have HN : Hid (P = ans (if dEnd zs (m + 1) = (m + 1) then none else some (dEnd zs (m + 1)))) := by
            show P = _; rw [HP.out]; unfold expE; simp only [hsg, if_true, if_false, Bool.false_eq_true]
          clear HP
          by_cases hd : dEnd zs (m + 1) = (m + 1)
          · rw [if_pos hd] at HN
            go_wp2_with (go_at_call 50; go_must (refine (digitsEnd_at _ _ _ (m + 1) _ _ (by omega) HZ.out hl (by omega)).mono ?_; rintro e w' ⟨rfl, rfl⟩))
            go_ret2
            exact ⟨ret_pair HN.out, rfl⟩
          · rw [if_neg hd] at HN
            have hge := dEnd_ge zs (m + 1)
            obtain ⟨q, hq⟩ : ∃ q, q = dEnd zs (m + 1) := ⟨_, rfl⟩
            rw [← hq] at hd hge HN
            have hq' := hq.symm
            clear hq
            have hne : ((q : Int) == (((m + 1) : Nat) : Int)) = false := by simp; omega
            go_wp2_with (go_at_call 50; go_must (refine (digitsEnd_at _ _ _ (m + 1) _ _ (by omega) HZ.out hl (by omega)).mono ?_; rintro e w' ⟨rfl, rfl⟩))
            go_ret2
            exact ⟨ret_pair HN.out, rfl⟩
    · have hsg : isAt zs (m + 1) sg = false := isAt_out hl1
      have HN : Hid (P = ans (if dEnd zs (m + 1) = (m + 1) then none else some (dEnd zs (m + 1)))) := by
        show P = _; rw [HP.out]; unfold expE; simp only [hsg, if_true, if_false, Bool.false_eq_true]
      clear HP
      by_cases hd : dEnd zs (m + 1) = (m + 1)
      · rw [if_pos hd] at HN
        go_wp2_with (go_at_call 50; go_must (refine (digitsEnd_at _ _ _ (m + 1) _ _ (by omega) HZ.out hl (by omega)).mono ?_; rintro e w' ⟨rfl, rfl⟩))
        go_ret2
        exact ⟨ret_pair HN.out, rfl⟩
      · rw [if_neg hd] at HN
        have hge := dEnd_ge zs (m + 1)
        obtain ⟨q, hq⟩ : ∃ q, q = dEnd zs (m + 1) := ⟨_, rfl⟩
        rw [← hq] at hd hge HN
        have hq' := hq.symm
        clear hq
        have hne : ((q : Int) == (((m + 1) : Nat) : Int)) = false := by simp; omega
        go_wp2_with (go_at_call 50; go_must (refine (digitsEnd_at _ _ _ (m + 1) _ _ (by omega) HZ.out hl (by omega)).mono ?_; rintro e w' ⟨rfl, rfl⟩))
        go_ret2
        exact ⟨ret_pair HN.out, rfl⟩

theorem numberEnd_none (ao : Option Addr) (cap : Nat) (w : World) :
    Calls Try.prog 45 #[.slice ao 0 cap, .int .i64 0] w fun e w' => e = .returned (.tuple #[.int .i64 0, .bool false]) ∧ w' = w := by
  go_enter Try.func45, Try.ntmps45
  go_wp2
  go_ret2
  exact ⟨rfl, rfl⟩

theorem numberEnd_any (ao : Option Addr) (cap : Nat) (zs : List Int) (s : Nat) (w : World) (hz : By.Bs w ao zs) (hl : zs.length ≤ 1073741824) (hs : s ≤ zs.length) :
    Calls Try.prog 45 #[.slice ao zs.length cap, .int .i64 s] w fun e w' => e = .returned (.tuple #[.int .i64 (ans (numE zs s)).1, .bool (ans (numE zs s)).2]) ∧ w' = w := by
  rcases hz with rfl | ⟨b, off, rfl, hc⟩
  · obtain rfl : s = 0 := by simpa using hs
    exact numberEnd_none ao cap w
  · exact numberEnd_some b off cap zs s w hc hl hs

theorem zzNumberEnd_any (ao : Option Addr) (cap : Nat) (zs : List Int) (s : Nat) (w : World) (hz : By.Bs w ao zs) (hl : zs.length ≤ 1073741824) (hs : s ≤ zs.length) :
    Calls Try.prog 31 #[.slice ao zs.length cap, .int .i64 s] w fun e w' => e = .returned (.tuple #[.int .i64 (ans (numE zs s)).1, .bool (ans (numE zs s)).2]) ∧ w' = w := by
  go_enter Try.func31, Try.ntmps31
  go_wp2_with (go_at_call 45; go_must (refine (numberEnd_any _ _ _ _ _ hz hl hs).mono ?_; rintro e w' ⟨rfl, rfl⟩))
  go_ret2
  exact ⟨rfl, rfl⟩
end Go.Proofs.Qxb6001665a.Num
