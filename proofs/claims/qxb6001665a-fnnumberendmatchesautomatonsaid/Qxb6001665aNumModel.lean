/-
  The contracts of cloneBytesSJg1 and numberModelSJg1.
-/
import Derived.Test.Qxb6001665aNumStep
import Derived.Test.Qxb6001665aClone
import Derived.WalkKit
import Derived.WalkSpells
namespace Go.Proofs.Qxb6001665a.Num
open Go.RowKit
set_option linter.unusedVariables false

/-- the first k cells are the text's -/
def Upto (zs : List Int) (k : Nat) (cur : List Value) : Prop := cur.length = zs.length ∧ ∀ i, i < k → cur[i]? = some (.int .u8 (zs.getD i 0))
theorem Upto.set {zs : List Int} {k : Nat} {cur : List Value} (h : Upto zs k cur) (hk : k < zs.length) : Upto zs (k + 1) (cur.set k (.int .u8 (zs.getD k 0))) := by
  refine ⟨by simpa using h.1, fun i hi => ?_⟩
  by_cases e : i = k
  · subst e; simp [h.1, hk]
  · rw [List.getElem?_set_ne (by omega)]; exact h.2 i (by omega)
/-- all of them: the bytes to be read -/
theorem Upto.bs {zs : List Int} {cur : List Value} {w : World} {base g cap : Nat} (h : Upto zs zs.length cur) (ho : w.ownsRow base 5 1 (.slice (some ⟨g, 0, none⟩) zs.length cap) zs.length cur) : By.Bs w (some ⟨g, 0, none⟩) zs := by
  refine .inr ⟨g, 0, rfl, fun i hi => ?_⟩
  rw [Nat.zero_add, ho.cellAt i (by omega)]
  exact h.2 i hi

theorem clone29_any (ao : Option Addr) (cap : Nat) (zs : List Int) (w : World) (hz : By.Bs w ao zs) (hn : ao = none → zs = [] ∧ cap = 0) (hl : zs.length ≤ 1073741824) :
    Calls Try.prog 29 #[.slice ao zs.length cap] w fun e w' => By.Cloned w zs e w' := by
  have q22 : ∀ (w : World) (a : Option Addr) (n c n' c' : Nat), (binOp .eql 22 (.slice a n c) (.slice none n' c')).run Try.prog w = .ok (.bool a.isNone) w := fun w a n c n' c' => Lib.run_eql_slice_nil w _ _ a n c n' c' Try.underlying22
  cases ao with
  | none =>
    obtain ⟨rfl, rfl⟩ := hn rfl
    go_enter Try.func29, Try.ntmps29
    go_wp2
    go_ret
    exact ⟨_, _, rfl, .inl rfl, Below.refl _ _⟩
  | some x =>
    obtain ⟨i0, hi, hz0, hz1, hz2⟩ := info_parts By.info5
    clear hn
    go_enter Try.func29, Try.ntmps29
    go_wp2_with (at_make; go_must (refine wpList_make_full _ rfl (.tmp 8) (.tmp 8) 22 rfl w.heap.size 5 i0 (.int .u8 0) 1 Try.underlying22 hi hz0 hz1 .i64 .i64 zs.length zs.length zs.length rfl rfl rfl rfl (by rw [hz2]; omega) (by unfold maxLen; omega) (Nat.le_refl _) ?_; intro w1 hown hgrow))
    have hb1 : Below w.heap.size w w1 := (Below.refl _ _).grown hgrow (Nat.le_refl _) (by simp)
    clear hgrow q22
    go_loopw [4] (fun i wr => ∃ (k : Nat) (cur : List Value), k ≤ zs.length ∧ i = .int .i64 k ∧ Upto zs k cur ∧ wr.ownsRow w.heap.size 5 1 (.slice (some ⟨w.heap.size, 0, none⟩) zs.length zs.length) zs.length cur ∧ Below w.heap.size w wr) (fun i _ => zs.length - (intOf i).toNat)
    case atStart => exact ⟨0, _, Nat.zero_le _, rfl, ⟨by simpa using hown.1, fun i hi => absurd hi (by omega)⟩, hown, hb1⟩
    case round =>
      clear hown hb1
      obtain ⟨k, cur, hk, rfl, hU, hown, hb⟩ := hrel
      by_cases hlt : k < zs.length
      · rcases hz.below hb with h | ⟨b, off, hx, hc⟩
        · simp [h] at hlt
        · obtain rfl : x = ⟨b, off, none⟩ := by simpa using hx
          have hck := hc k hlt
          have hU' := hU.set hlt
          obtain ⟨c, hcd⟩ : ∃ c, c = zs.getD k 0 := ⟨_, rfl⟩
          rw [← hcd] at hck hU'
          have hfz := hown.frozenAt k
          obtain ⟨v0, hv0⟩ : ∃ v0, wr.cell? ⟨w.heap.size, k, none⟩ = some v0 := by
            have h1 := hown.cellAt k (by omega)
            have h2 : k < cur.length := by rw [hU.1]; exact hlt
            exact ⟨cur[k], by rw [h1]; simp [h2]⟩
          have hst := hown.stored k (.int .u8 c)
          have HS : Hid ((wr.setCell ⟨w.heap.size, k, none⟩ (.int .u8 c)).ownsRow w.heap.size 5 1 (.slice (some ⟨w.heap.size, 0, none⟩) zs.length zs.length) zs.length (cur.set k (.int .u8 c))) := hst.1
          have HB : Hid (Below w.heap.size w (wr.setCell ⟨w.heap.size, k, none⟩ (.int .u8 c))) := hb.setCell (Nat.le_refl _) _
          clear hc hcd hst hown hU hx
          go_wp2
          go_roundw
          case rel => exact ⟨k + 1, _, by omega, by go_num, hU', HS.out, HB.out⟩
          case measure => simp [intOf]; omega
      · obtain rfl : k = zs.length := by omega
        have HZ : Hid (By.Bs wr (some ⟨w.heap.size, 0, none⟩) zs) := hU.bs hown
        clear hU hown
        go_wp2
        go_ret
        exact ⟨_, _, rfl, HZ.out, hb⟩

theorem ret_chk {p : Int × Bool} {x : Int} {y : Bool} (h : p = (x, y)) : Ending.returned (.tuple #[.int .i64 x, .bool y]) = .returned (.tuple #[.int .i64 p.1, .bool p.2]) := by rw [h]

theorem chk_neg {zs : List Int} {best bst : Int} (h : best < 0) : chk zs (best, bst) = (0, false) := by simp [chk, h]
theorem chk_end {zs : List Int} {m : Nat} {bst : Int} (h : ¬ m < zs.length) : chk zs ((m : Int), bst) = ((m : Int), true) := by simp [chk, isAt, h]
theorem chk_at {zs : List Int} {m : Nat} {bst c : Int} (h : m < zs.length) (hc : c = at' zs m) :
    chk zs ((m : Int), bst) = if c = 46 ∧ (bst = 2 ∨ bst = 3) then (0, false) else if (c = 101 ∨ c = 69) ∧ (bst = 2 ∨ bst = 3 ∨ bst = 5) then (0, false) else ((m : Int), true) := by
  have e1 : isAt zs m (· == 46) = decide (c = 46) := by rw [Bool.eq_iff_iff]; simp [isAt, h, ← hc]
  have e2 : isAt zs m ex = decide (c = 101 ∨ c = 69) := by simp [isAt, h, ← hc, ex]
  unfold chk
  simp only [Int.toNat_natCast, e1, e2, decide_eq_true_eq]
  rw [if_neg (by omega)]

set_option maxHeartbeats 1000000 in
theorem model_any (ao : Option Addr) (cap : Nat) (zs : List Int) (s : Nat) (w : World) (hz : By.Bs w ao zs) (hl : zs.length ≤ 1073741824) (hs : s ≤ zs.length) :
    Calls Try.prog 30 #[.slice ao zs.length cap, .int .i64 s] w fun e w' => e = .returned (.tuple #[.int .i64 (chk zs (R zs s 0 (-1, -1))).1, .bool (chk zs (R zs s 0 (-1, -1))).2]) ∧ w' = w := by
  obtain ⟨P, hP⟩ : ∃ P, P = chk zs (R zs s 0 (-1, -1)) := ⟨_, rfl⟩
  rw [← hP]
  have HP : Hid (P = chk zs (R zs s 0 (-1, -1))) := hP
  clear hP
  go_enter Try.func30, Try.ntmps30
  go_wp2
  go_loop [6, 7, 8, 9] (fun a b c d => ∃ (k : Nat) (st best bst : Int), s ≤ k ∧ k ≤ zs.length ∧ 0 ≤ st ∧ st ≤ 8 ∧ -1 ≤ best ∧ best ≤ k ∧ a = .int .i64 st ∧ b = .int .i64 best ∧ c = .int .i64 bst ∧ d = .int .i64 k ∧
      Hid (R zs s 0 (-1, -1) = R zs k st (best, bst))) (fun _ _ _ d => zs.length - (intOf d).toNat)
  case atStart => exact ⟨s, 0, -1, -1, Nat.le_refl _, hs, by omega, by omega, by omega, by omega, rfl, rfl, rfl, rfl, rfl⟩
  case round =>
    obtain ⟨k, st, best, bst, hsk, hk, hst0, hst8, hb0, hb1, rfl, rfl, rfl, rfl, hR⟩ := hrel
    by_cases hlt : k < zs.length
    · rcases hz with h | ⟨b, off, rfl, hc⟩
      · simp [h] at hlt
      · have hck := hc k hlt
        obtain ⟨d, hdd⟩ : ∃ d, d = zs.getD k 0 := ⟨_, rfl⟩
        rw [← hdd] at hck
        have HD : Hid (at' zs k = d) := hdd.symm
        clear hdd
        obtain ⟨t, hT⟩ : ∃ t, step st d = t := ⟨_, rfl⟩
        have hbd := step_bd st d
        rw [hT] at hbd
        obtain ⟨ht0, ht8⟩ := hbd
        by_cases htn : t < 0
        · have HR : Hid (R zs s 0 (-1, -1) = (best, bst)) := hR.out.trans (R_stop (best, bst) (fun _ => by rw [HD.out, hT]; exact htn))
          clear hR
          by_cases hneg : best < 0
          · clear hc
            go_wp2_with (go_at_call 43; go_must (refine (step_any _ _ hst0 hst8 _).mono ?_; rintro e w' ⟨rfl, rfl⟩))
            go_ret2
            exact ⟨ret_chk (by rw [HP.out, HR.out, chk_neg hneg]), rfl⟩
          · obtain ⟨m, rfl⟩ := Int.eq_ofNat_of_zero_le (show 0 ≤ best by omega)
            by_cases hm : m < zs.length
            · have hcm := hc m hm
              obtain ⟨c, hcd⟩ : ∃ c, c = zs.getD m 0 := ⟨_, rfl⟩
              rw [← hcd] at hcm
              have HC : Hid (c = at' zs m) := hcd
              clear hc hcd
              go_wp2_with (go_at_call 43; go_must (refine (step_any _ _ hst0 hst8 _).mono ?_; rintro e w' ⟨rfl, rfl⟩))
              all_goals
                go_ret2
                refine ⟨ret_chk ?_, rfl⟩
                rw [HP.out, HR.out, chk_at hm HC.out]
                try simp only [beq_iff_eq, beq_eq_false_iff_ne] at *
                first | rw [if_pos (by omega)] | rw [if_neg (by omega), if_pos (by omega)] | rw [if_neg (by omega), if_neg (by omega)]
            · exfalso; omega
        · clear hc
          have HG : Hid (R zs s 0 (-1, -1) = R zs (k + 1) t (if acc t = true then (((k + 1 : Nat) : Int), t) else (best, bst))) := hR.out.trans (R_go t (best, bst) hlt (by rw [HD.out, hT]) (by omega))
          clear hR
          cases ha : acc t
          · go_wp2_with (first
              | (go_at_call 43; go_must (refine (step_any _ _ hst0 hst8 _).mono ?_; rintro e w' ⟨rfl, rfl⟩))
              | (go_at_call 44; go_must (refine (accept_any _ _).mono ?_; rintro e w' ⟨rfl, rfl⟩)))
            go_round
            case rel => exact ⟨k + 1, t, best, bst, by omega, by omega, by omega, by omega, by omega, by omega, rfl, rfl, rfl, by go_num, HG.out.trans (by rw [if_neg (by rw [ha]; exact Bool.false_ne_true)])⟩
            case measure => simp [intOf]; omega
          · go_wp2_with (first
              | (go_at_call 43; go_must (refine (step_any _ _ hst0 hst8 _).mono ?_; rintro e w' ⟨rfl, rfl⟩))
              | (go_at_call 44; go_must (refine (accept_any _ _).mono ?_; rintro e w' ⟨rfl, rfl⟩)))
            go_round
            case rel => exact ⟨k + 1, t, ((k + 1 : Nat) : Int), t, by omega, by omega, by omega, by omega, by omega, by omega, rfl, by go_num, rfl, by go_num, HG.out.trans (by rw [if_pos ha])⟩
            case measure => simp [intOf]; omega
    · have HR : Hid (R zs s 0 (-1, -1) = (best, bst)) := hR.out.trans (R_end st (best, bst) (by omega))
      clear hR
      by_cases hneg : best < 0
      · go_wp2
        go_ret2
        exact ⟨ret_chk (by rw [HP.out, HR.out, chk_neg hneg]), rfl⟩
      · obtain ⟨m, rfl⟩ := Int.eq_ofNat_of_zero_le (show 0 ≤ best by omega)
        by_cases hm : m < zs.length
        · rcases hz with h | ⟨b, off, rfl, hc⟩
          · simp [h] at hm
          · have hcm := hc m hm
            obtain ⟨c, hcd⟩ : ∃ c, c = zs.getD m 0 := ⟨_, rfl⟩
            rw [← hcd] at hcm
            have HC : Hid (c = at' zs m) := hcd
            clear hc hcd
            go_wp2
            all_goals
              go_ret2
              refine ⟨ret_chk ?_, rfl⟩
              rw [HP.out, HR.out, chk_at hm HC.out]
              try simp only [beq_iff_eq, beq_eq_false_iff_ne] at *
              first | rw [if_pos (by omega)] | rw [if_neg (by omega), if_pos (by omega)] | rw [if_neg (by omega), if_neg (by omega)]
        · clear hz
          go_wp2
          go_ret2
          exact ⟨ret_chk (by rw [HP.out, HR.out, chk_end hm]), rfl⟩
end Go.Proofs.Qxb6001665a.Num
