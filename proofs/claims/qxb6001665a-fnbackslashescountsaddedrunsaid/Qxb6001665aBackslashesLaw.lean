/-
  The walk of FnBackslashesCountsAddedRun.
-/
import Derived.Test.Qxb6001665aClone
import Derived.WalkKit
import Derived.WalkSpells
namespace Go.Proofs.Qxb6001665a.By
open Go.RowKit

theorem zzBytes_yes (a0 : Int) (ao : Option Addr) (n cap : Nat) (w : World) (hl : n ≤ 1048576) :
    Calls Try.prog 13 #[.int .u8 a0, .slice ao n cap] w fun e w' => e = .returned (.bool true) ∧ w' = w := by
  go_enter Try.func13, Try.ntmps13
  go_wp2
  go_ret
  exact ⟨rfl, rfl⟩
theorem zzBytes_no (a0 : Int) (ao : Option Addr) (n cap : Nat) (w : World) (hl : 1048576 < n) :
    Calls Try.prog 13 #[.int .u8 a0, .slice ao n cap] w fun e w' => e = .returned (.bool false) ∧ w' = w := by
  go_enter Try.func13, Try.ntmps13
  go_wp2
  go_ret
  exact ⟨rfl, rfl⟩

theorem law_no (a0 : Int) (ao : Option Addr) (n cap : Nat) (w : World) (hl : 1048576 < n) :
    Calls Try.prog 3 #[.int .u8 a0, .slice ao n cap] w fun e w' => e = .returned (.bool true) ∧ Below w.heap.size w w' := by
  go_enter Try.func3, Try.ntmps3
  go_wp2_with (go_at_call 13; refine (zzBytes_no _ _ _ _ _ hl).mono ?_; rintro e w' ⟨rfl, rfl⟩)
  go_ret
  exact ⟨rfl, Below.refl _ _⟩

theorem zzBackslashes_len (ao : Option Addr) (n cap : Nat) (zs : List Int) (w : World) (hn : n = zs.length) (hz : Bs w ao zs) (hl : zs.length ≤ 1073741824) :
    Calls Try.prog 15 #[.slice ao n cap] w fun e w' => e = .returned (.int .i64 (lead zs)) ∧ w' = w := by
  subst hn; exact zzBackslashes_any ao cap zs w hz hl

/-- behind 'append(joined, c)': nothing below the row has turned -/
theorem push_below {w1 wr w3 : World} {o : Obj} (hb : Below w1.heap.size w1 wr) (hgrow : (wr.alloc o).grownBy w3 (some w1.heap.size)) : Below w1.heap.size w1 w3 :=
  (hb.alloc hb.size o).grown hgrow (by have := hb.size; simp; omega) (by simp)

/-- what is owned, as bytes to be read -/
theorem own_bs {w : World} {base g n cap : Nat} {zs : List Int} (h : w.ownsRow base 5 1 (.slice (some ⟨g, 0, none⟩) n cap) n (zs.map (Value.int .u8))) : Bs w (some ⟨g, 0, none⟩) zs := by
  have hn : zs.length = n := by simpa using h.1
  refine .inr ⟨g, 0, rfl, fun i hi => ?_⟩
  have h1 := h.cellAt i (by omega)
  rw [Nat.zero_add, h1]
  simp [hi]

theorem push_rep (j : Nat) : List.replicate j (Value.int .u8 92) ++ [Value.int .u8 92] = List.replicate (j + 1) (Value.int .u8 92) := by rw [List.replicate_succ']
theorem push_take (X : List Value) (zs : List Int) (j : Nat) (h : j < zs.length) : (X ++ (zs.take j).map (Value.int .u8)) ++ [Value.int .u8 (zs.getD j 0)] = X ++ (zs.take (j + 1)).map (Value.int .u8) := by
  have e : zs.getD j 0 = zs[j] := by simp [h]
  rw [e, List.take_succ_eq_append_getElem h, List.map_append, List.append_assoc]; rfl

set_option maxHeartbeats 1000000 in
theorem law_yes (a0 : Int) (h0 : 0 ≤ a0) (h255 : a0 ≤ 255) (ao : Option Addr) (cap : Nat) (zs : List Int) (w : World) (hz : Bs w ao zs) (hn : ao = none → zs = [] ∧ cap = 0) (hl : zs.length ≤ 1048576) :
    Calls Try.prog 3 #[.int .u8 a0, .slice ao zs.length cap] w fun e w' => e = .returned (.bool true) ∧ Below w.heap.size w w' := by
  obtain ⟨i0, hi, hz0, hz1, hz2⟩ := info_parts info5
  obtain ⟨kk, hkk⟩ : ∃ kk : Nat, a0 % 64 = kk := ⟨(a0 % 64).toNat, by omega⟩
  have hk64 : kk < 64 := by omega
  go_enter Try.func3, Try.ntmps3
  go_wp2_with (first
    | (go_at_call 13; refine (zzBytes_yes _ _ _ _ _ hl).mono ?_; rintro e w' ⟨rfl, rfl⟩)
    | (go_at_call 14; refine (clone_any _ _ _ _ hz hn (by omega)).mono ?_; rintro e w1 ⟨ao', cap', rfl, hz', hb1⟩)
    | (at_make; go_must (refine wpList_make_own _ rfl (.const (.int .i64 0)) (.tmp 26) 22 rfl w1.heap.size 5 i0 (.int .u8 0) 1 Try.underlying22 hi hz0 hz1 .i64 .i64 _ (kk + zs.length) rfl rfl (by omega) (by rw [hz2]; omega) (by unfold maxLen; omega) (Nat.le_refl _) ?_; intro w2 hown2 hgrow2)))
  have hbel2 : Below w1.heap.size w1 w2 := (Below.refl _ _).grown hgrow2 (Nat.le_refl _) (by simp)
  clear hgrow2
  go_loopw [6, 7] (fun v i wr => ∃ j : Nat, j ≤ kk ∧ i = .int .i64 j ∧ v = .slice (some ⟨w1.heap.size, 0, none⟩) j (kk + zs.length) ∧
      wr.ownsRow w1.heap.size 5 1 (.slice (some ⟨w1.heap.size, 0, none⟩) j (kk + zs.length)) j (List.replicate j (.int .u8 92)) ∧ Below w1.heap.size w1 wr) (fun _ i _ => kk - (intOf i).toNat)
  case atStart => exact ⟨0, Nat.zero_le _, rfl, rfl, hown2, hbel2⟩
  case round =>
    clear hown2 hbel2
    obtain ⟨j, hj, rfl, rfl, hown, hb⟩ := hrel
    by_cases hlt : j < kk
    · go_wp2_with (at_builtin; go_must (refine wpList_append_fits _ rfl (.tmp 33) (.tmp 34) 22 rfl w1.heap.size 5 i0 1 Try.underlying22 hi hz1 w1.heap.size j (kk + zs.length) _ rfl (hown.alloc _) ⟨wr.heap.size, 0, none⟩ 1 1 [.int .u8 92] rfl rfl (by intro t u ht; match t, ht with | 0, ht => (simp at ht; subst ht; simp [Addr.add])) (by simp [Value.oneCell']) (by omega) ?_; intro w3 hown3 hgrow3))
      have hb3 := push_below hb hgrow3
      rw [push_rep] at hown3
      clear hgrow3 hown hb
      go_roundw
      case rel => exact ⟨j + 1, by omega, by go_num, rfl, hown3, hb3⟩
      case measure => simp [intOf]; omega
    · obtain rfl : j = kk := by omega
      go_wp2_with fail
      go_loopw [6, 8] (fun v i wr => ∃ t : Nat, t ≤ zs.length ∧ i = .int .i64 t ∧ v = .slice (some ⟨w1.heap.size, 0, none⟩) (j + t) (j + zs.length) ∧
          wr.ownsRow w1.heap.size 5 1 (.slice (some ⟨w1.heap.size, 0, none⟩) (j + t) (j + zs.length)) (j + t) (List.replicate j (.int .u8 92) ++ (zs.take t).map (Value.int .u8)) ∧ Below w1.heap.size w1 wr) (fun _ i _ => zs.length - (intOf i).toNat)
      case atStart => exact ⟨0, Nat.zero_le _, rfl, rfl, by simpa using hown, hb⟩
      case round =>
        clear hown hb
        obtain ⟨t, ht, rfl, rfl, hown, hb⟩ := hrel
        by_cases hlt2 : t < zs.length
        · rcases hz'.below hb with h | ⟨b, off, rfl, hc⟩
          · simp [h] at hlt2
          · have hck := hc t hlt2
            have hpt := push_take (List.replicate j (.int .u8 92)) zs t hlt2
            obtain ⟨c, hcd⟩ : ∃ c, c = zs.getD t 0 := ⟨_, rfl⟩
            rw [← hcd] at hck hpt
            have HP : Hid _ := hpt
            clear hc hcd hpt
            go_wp2_with (at_builtin; go_must (refine wpList_append_fits _ rfl (.tmp 42) (.tmp 47) 22 rfl w1.heap.size 5 i0 1 Try.underlying22 hi hz1 w1.heap.size (j + t) (j + zs.length) _ rfl (hown.alloc _) ⟨wr.heap.size, 0, none⟩ 1 1 [.int .u8 c] rfl rfl (by intro t u ht; match t, ht with | 0, ht => (simp at ht; subst ht; simp [Addr.add])) (by simp [Value.oneCell']) (by omega) ?_; intro w3 hown3 hgrow3))
            have hb3 := push_below hb hgrow3
            rw [HP.out] at hown3
            clear hgrow3 hown hb
            go_roundw
            case rel => exact ⟨t + 1, by omega, by go_num, rfl, hown3, hb3⟩
            case measure => simp [intOf]; omega
        · obtain rfl : t = zs.length := by omega
          have hzr := hz'.below hb
          have hjs : Bs wr (some ⟨w1.heap.size, 0, none⟩) (List.replicate j 92 ++ zs) := own_bs (by simpa using hown)
          have hfin := lead_append j zs
          have hle := lead_le zs
          have hat : Hid (∀ i, i < lead zs → zs.getD i 0 = 92) := lead_at zs
          have hend : Hid (lead zs < zs.length → zs.getD (lead zs) 0 ≠ 92) := lead_end zs
          have hw' : Below w'.heap.size w' wr := hb1.trans (hb.mono hb1.size)
          clear hown hb hb1 hz
          go_wp2_with (go_at_call 15; refine (zzBackslashes_any _ _ _ _ hzr (by omega)).mono ?_; rintro e w4 ⟨rfl, rfl⟩)
          obtain ⟨bs, hbs⟩ : ∃ bs, bs = lead zs := ⟨_, rfl⟩
          rw [← hbs] at hfin hle hat hend
          rw [← hbs]
          have HBS : Hid (bs = lead zs) := hbs
          clear hbs
          go_loop [10] (fun i => ∃ t : Nat, t ≤ bs ∧ i = .int .i64 t) (fun i => bs - (intOf i).toNat)
          case atStart => exact ⟨0, Nat.zero_le _, rfl⟩
          case round =>
            obtain ⟨t, ht, rfl⟩ := hrel
            by_cases hlt3 : t < bs
            · rcases hzr with h | ⟨b, off, rfl, hc⟩
              · simp [h] at hle; omega
              · have hck := hc t (by omega)
                rw [hat.out t hlt3] at hck
                clear hc
                have hlt4 : t < zs.length := by omega
                go_wp2
                go_round
                case rel => exact ⟨t + 1, by omega, by go_num⟩
                case measure => simp [intOf]; omega
            · by_cases hlt5 : bs < zs.length
              · rcases hzr with h | ⟨b, off, rfl, hc⟩
                · simp [h] at hlt5
                · have hck := hc bs hlt5
                  have hne := hend.out hlt5
                  obtain ⟨c, hcd⟩ : ∃ c, c = zs.getD bs 0 := ⟨_, rfl⟩
                  rw [← hcd] at hck hne
                  have hne' : (c == 92) = false := by simpa using hne
                  clear hc hcd hne
                  go_wp2_with (go_at_call 15; refine (zzBackslashes_len _ _ _ _ _ (by simp) hjs (by simp; omega)).mono ?_; rintro e w4 ⟨rfl, rfl⟩)
                  go_ret
                  exact ⟨ret_bool (by simp), hw'⟩
              · clear hzr
                go_wp2_with (go_at_call 15; refine (zzBackslashes_len _ _ _ _ _ (by simp) hjs (by simp; omega)).mono ?_; rintro e w4 ⟨rfl, rfl⟩)
                go_ret
                exact ⟨ret_bool (by simp), hw'⟩
end Go.Proofs.Qxb6001665a.By
