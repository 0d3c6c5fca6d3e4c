/-
  The walk of FnSpanTakesHexEscapeInEitherCase.
-/
import Derived.Test.Qxb6001665aSpanShim
import Derived.WalkKit
import Derived.WalkSpells
namespace Go.Proofs.Qxb6001665a.Sp
open Go.RowKit
set_option linter.unusedVariables false

/-- the array of four nibbles, still there -/
def Arr (A : Nat) (w : World) : Prop := ∀ i, i < 4 → ∃ v, w.cell? ⟨A, i, none⟩ = some (.int .u8 v) ∧ 0 ≤ v ∧ v ≤ 255
theorem Arr.grown {A : Nat} {w w' : World} {row : Option Nat} (h : Arr A w) (hg : w.grownBy w' row) (hne : some A ≠ row) : Arr A w' := fun i hi => by
  obtain ⟨v, hv, h0, h1⟩ := h i hi
  exact ⟨v, hg.cell hv hne, h0, h1⟩
theorem Arr.alloc {A : Nat} {w : World} (h : Arr A w) (o : Obj) : Arr A (w.alloc o) := fun i hi => by
  obtain ⟨v, hv, h0, h1⟩ := h i hi
  exact ⟨v, by rw [((Below.refl w.heap.size w).alloc (Nat.le_refl _) o).cell (by exact block_lt hv)]; exact hv, h0, h1⟩
theorem Arr.start (w : World) (a b c d : Int) (ha : 0 ≤ a ∧ a ≤ 255) (hb : 0 ≤ b ∧ b ≤ 255) (hc : 0 ≤ c ∧ c ≤ 255) (hd : 0 ≤ d ∧ d ≤ 255) :
    Arr w.heap.size (w.alloc (.cells #[.int .u8 a, .int .u8 b, .int .u8 c, .int .u8 d] 37)) := fun i hi => by
  match i, hi with
  | 0, _ => exact ⟨a, by simp, ha⟩
  | 1, _ => exact ⟨b, by simp, hb⟩
  | 2, _ => exact ⟨c, by simp, hc⟩
  | 3, _ => exact ⟨d, by simp, hd⟩

/-- what has been gathered: the text's digits xs, the spelling's ys -/
def Prs (k : Nat) (xs ys : List Int) : Prop := xs.length = k ∧ ys.length = k ∧ ∀ i, i < k → Fits (xs.getD i 0) (ys.getD i 0)
theorem Prs.nil : Prs 0 [] [] := ⟨rfl, rfl, fun i hi => absurd hi (by omega)⟩
theorem Prs.push {k : Nat} {xs ys : List Int} {x y : Int} (h : Prs k xs ys) (hf : Fits x y) : Prs (k + 1) (xs ++ [x]) (ys ++ [y]) := by
  obtain ⟨h1, h2, h3⟩ := h
  refine ⟨by simp [h1], by simp [h2], fun i hi => ?_⟩
  by_cases hk : i < k
  · have e1 : (xs ++ [x]).getD i 0 = xs.getD i 0 := by simp [List.getElem?_append, h1, hk]
    have e2 : (ys ++ [y]).getD i 0 = ys.getD i 0 := by simp [List.getElem?_append, h2, hk]
    rw [e1, e2]; exact h3 i hk
  · obtain rfl : i = k := by omega
    have e1 : (xs ++ [x]).getD i 0 = x := by simp [← h1]
    have e2 : (ys ++ [y]).getD i 0 = y := by simp [← h2]
    rw [e1, e2]; exact hf

theorem map_push (X : List Int) (xs : List Int) (x : Int) : ((X ++ xs).map (Value.int .u8)) ++ [Value.int .u8 x] = (X ++ (xs ++ [x])).map (Value.int .u8) := by simp

/-- what is owned, cell by cell -/
theorem own_cells {W : World} {base g n cap : Nat} {zs : List Int} (h : W.ownsRow base 5 1 (.slice (some ⟨g, 0, none⟩) n cap) n (zs.map (Value.int .u8))) :
    n = zs.length ∧ ∀ i, i < n → W.cell? ⟨g, 0 + i, none⟩ = some (.int .u8 (zs.getD i 0)) := by
  have hn : zs.length = n := by simpa using h.1
  refine ⟨hn.symm, fun i hi => ?_⟩
  have h1 := h.cellAt i (by omega)
  have hi' : i < zs.length := by omega
  rw [Nat.zero_add, h1]
  simp [hi']

/-- a byte of a string that was made of numbers -/
theorem str_at (L : List Int) (k : Nat) (h : k < (strOfNums L).size) (h0 : 0 ≤ L.getD k 0) (h1 : L.getD k 0 ≤ 255) : (((strOfNums L)[k]'h).toNat : Int) = L.getD k 0 := by
  have hk : k < L.length := by rw [strOfNums_size] at h; exact h
  have e : L.getD k 0 = L[k] := by simp [hk]
  rw [e] at h0 h1 ⊢
  have e2 : (strOfNums L)[k]'h = UInt8.ofNat (L[k].toNat) := by
    show (strOfNums L).data[k] = _
    simp [strOfNums]
  rw [e2]
  simp
  omega

theorem fin_conv {W : World} {base g : Nat} {L : List Int} (h : W.ownsRow base 5 1 (.slice (some ⟨g, 0, none⟩) 6 6) 6 (L.map (Value.int .u8))) :
    (convert 22 9 (.slice (some ⟨g, 0, none⟩) 6 6)).run Try.prog W = .ok (.string (strOfNums L)) W :=
  run_convert_bytes_arg W 22 5 Try.underlying22 Try.underlying5 g 0 6 6 L (own_cells h).1.symm (own_cells h).2 9 Try.underlying9

theorem getD_two (a b : Int) (xs : List Int) (k : Nat) : (a :: b :: xs).getD (k + 2) 0 = xs.getD k 0 := by simp

theorem fin_span {W : World} {base g n : Nat} {xs ys ts : List Int} (hP : Prs 4 xs ys) (hn : n = 6 + ts.length) (hts : ts.length ≤ 1) (htb : ∀ i, i < ts.length → 0 ≤ ts.getD i 0 ∧ ts.getD i 0 ≤ 255)
    (h : W.ownsRow base 5 1 (.slice (some ⟨g, 0, none⟩) n 7) n ((92 :: 117 :: (xs ++ ts)).map (Value.int .u8))) :
    Calls Try.prog 27 #[.string (strOfNums (92 :: 117 :: ys)), .bool true, .slice (some ⟨g, 0, none⟩) n 7] W fun e w' => e = .returned (.tuple #[.int .i64 6, .int .i64 6, .bool false]) ∧ Below W.heap.size W w' := by
  obtain ⟨hzn, hcells⟩ := own_cells h
  obtain ⟨hx, hy, hf⟩ := hP
  have hsz : (strOfNums (92 :: 117 :: ys)).size = 6 := by rw [strOfNums_size]; simp [hy]
  have hx4 : ∀ i, i < 4 → (xs ++ ts).getD i 0 = xs.getD i 0 := fun i hi => by simp [List.getElem?_append, hx, hi]
  refine zzspan_any _ hsz g 0 n 7 (by omega) (by omega) (by omega) (by omega) W (92 :: 117 :: (xs ++ ts)) hzn hcells ?_ ?_ (by simp) ?_ ?_
  · intro i hi
    match i, hi with
    | 0, _ => simp
    | 1, _ => simp
    | k + 2, hi =>
      rw [getD_two]
      by_cases hk : k < 4
      · rw [hx4 k hk]; exact (hf k hk).1
      · have e : (xs ++ ts).getD k 0 = ts.getD (k - 4) 0 := by simp [List.getElem?_append, hx, hk]
        rw [e]; exact htb _ (by omega)
  · intro h0
    rw [str_at _ _ _ (by simp) (by simp)]; simp
  · simp [By.lead]
  · intro k hk hk1
    rw [hsz] at hk
    match k, hk, hk1 with
    | 1, _, _ =>
      rw [str_at _ _ _ (by simp) (by simp)]
      simp [Lh.lh]
    | k + 2, hk, _ =>
      have h4 : k < 4 := by omega
      have g4 := hf k h4
      have e : (92 :: 117 :: ys).getD (k + 2) 0 = ys.getD k 0 := getD_two _ _ _ _
      rw [str_at _ _ _ (by rw [e]; exact g4.2.1.1) (by rw [e]; exact g4.2.1.2), e, getD_two, hx4 k h4]
      exact ⟨g4.2.2.2, g4.2.2.1⟩

set_option maxHeartbeats 1000000 in
theorem law (d0 d1 d2 d3 up tl : Int) (ht : Bool) (w : World) (h0 : 0 ≤ d0) (h0' : d0 ≤ 255) (h1 : 0 ≤ d1) (h1' : d1 ≤ 255) (h2 : 0 ≤ d2) (h2' : d2 ≤ 255)  (h3 : 0 ≤ d3) (h3' : d3 ≤ 255) (hup : 0 ≤ up) (hup' : up ≤ 255) (ht0 : 0 ≤ tl) (ht1 : tl ≤ 255) :
    Calls Try.prog 8 #[.int .u8 d0, .int .u8 d1, .int .u8 d2, .int .u8 d3, .int .u8 up, .int .u8 tl, .bool ht] w fun e w' => e = .returned (.bool true) ∧ Below w.heap.size w w' := by
  obtain ⟨i0, hi, hz0, hz1, hz2⟩ := info_parts By.info5
  have hA0 := Arr.start w (d0 % 16) (d1 % 16) (d2 % 16) (d3 % 16) (by omega) (by omega) (by omega) (by omega)
  have hB0 := (Below.refl w.heap.size w).alloc (Nat.le_refl _) (.cells #[.int .u8 (d0 % 16), .int .u8 (d1 % 16), .int .u8 (d2 % 16), .int .u8 (d3 % 16)] 37)
  go_enter Try.func8, Try.ntmps8
  go_wp2_with (first
    | (at_make; refine wpList_make_own _ rfl (.const (.int .i64 0)) (.const (.int .i64 6)) 22 rfl w.heap.size 5 i0 (.int .u8 0) 1 Try.underlying22 hi hz0 hz1 .i64 .i64 _ 6 rfl rfl rfl (by rw [hz2]; omega) (by unfold maxLen; omega) (by simp) ?_; intro w1 hown1 hgrow1; have hA1 := hA0.grown hgrow1 (by simp); have hB1 := hB0.grown hgrow1 (by simp) (by simp); have hs1 : (w.alloc _).heap.size < w1.heap.size := (hown1.lt _ rfl).2; simp only [World.size_alloc] at hown1 hs1; clear hgrow1 hA0 hB0)
    | (at_make; go_must (refine wpList_make_own _ rfl (.const (.int .i64 0)) (.const (.int .i64 7)) 22 rfl w.heap.size 5 i0 (.int .u8 0) 1 Try.underlying22 hi hz0 hz1 .i64 .i64 _ 7 rfl rfl rfl (by rw [hz2]; omega) (by unfold maxLen; omega) (by omega) ?_; intro w3 hin3 hgrow3; have hown3 := hown2.kept hgrow3 (by simp [Value.ownBlock]); have hA3 := hA2.grown hgrow3 (by simp); have hB3 := hB2.grown hgrow3 (by omega) (by simp); have hs3 : w2.heap.size < w3.heap.size := (hin3.lt _ rfl).2; clear hgrow3 hA2 hB2 hown2))
    | (at_builtin; refine wpList_append_fits _ rfl (.tmp 32) (.tmp 33) 22 rfl w.heap.size 5 i0 1 Try.underlying22 hi hz1 (w.heap.size + 1) 0 6 _ rfl (hown1.alloc _) ⟨w1.heap.size, 0, none⟩ 2 2 [.int .u8 92, .int .u8 117] rfl rfl (by intro t u ht; match t, ht with | 0, ht => (simp at ht; subst ht; simp [Addr.add]) | 1, ht => (simp at ht; subst ht; simp [Addr.add])) (by simp [Value.oneCell']) (by omega) ?_; intro w2 hown2 hgrow2; have hA2 := (hA1.alloc _).grown hgrow2 (by simp); have hB2 := (hB1.alloc (by omega) _).grown hgrow2 (by simp; omega) (by simp); have hs2 : w.heap.size + 1 < w2.heap.size := (hown2.lt _ rfl).2; clear hgrow2 hA1 hB1 hown1)
    | (at_builtin; go_must (refine wpList_append_fits _ rfl (.tmp 36) (.tmp 37) 22 rfl w.heap.size 5 i0 1 Try.underlying22 hi hz1 w2.heap.size 0 7 _ rfl (hin3.alloc _) ⟨w3.heap.size, 0, none⟩ 2 2 [.int .u8 92, .int .u8 117] rfl rfl (by intro t u ht; match t, ht with | 0, ht => (simp at ht; subst ht; simp [Addr.add]) | 1, ht => (simp at ht; subst ht; simp [Addr.add])) (by simp [Value.oneCell']) (by omega) ?_; intro w4 hin4 hgrow4; have hown4 := (hown3.alloc _).kept hgrow4 (by simp [Value.ownBlock]; omega); have hA4 := (hA3.alloc _).grown hgrow4 (by simp; omega); have hB4 := (hB3.alloc (by omega) _).grown hgrow4 (by simp; omega) (by simp; omega); have hs4 : w2.heap.size < w4.heap.size := (hin4.lt _ rfl).2; clear hgrow4 hA3 hB3 hown3 hin3)))
  simp only [Nat.zero_add, List.nil_append] at hin4 hown4
  go_loopw [16, 17, 18] (fun s v i wr => ∃ (k : Nat) (xs ys : List Int), k ≤ 4 ∧ i = .int .i64 k ∧ s = .slice (some ⟨w.heap.size + 1, 0, none⟩) (2 + k) 6 ∧ v = .slice (some ⟨w2.heap.size, 0, none⟩) (2 + k) 7 ∧ Prs k xs ys ∧
      wr.ownsRow w.heap.size 5 1 (.slice (some ⟨w.heap.size + 1, 0, none⟩) (2 + k) 6) (2 + k) (([92, 117] ++ ys).map (Value.int .u8)) ∧
      wr.ownsRow w.heap.size 5 1 (.slice (some ⟨w2.heap.size, 0, none⟩) (2 + k) 7) (2 + k) (([92, 117] ++ xs).map (Value.int .u8)) ∧
      Arr w.heap.size wr ∧ Below w.heap.size w wr ∧ w2.heap.size < wr.heap.size) (fun _ _ i _ => 4 - (intOf i).toNat)
  case atStart => exact ⟨0, [], [], by omega, rfl, rfl, rfl, Prs.nil, hown4, hin4, hA4, hB4, hs4⟩
  case round =>
    clear hin4 hown4 hA4 hB4 hs4 hs1 hs3
    obtain ⟨k, xs, ys, hk, rfl, rfl, rfl, hP, hownS, hownI, hA, hB, hs⟩ := hrel
    by_cases hlt : k < 4
    · obtain ⟨v, hv, hv0, hv1⟩ := hA k hlt
      go_wp2_with (first
        | (go_at_call 25; refine (hexLower_any _ hv0 hv1 _).mono ?_; rintro e w' ⟨rfl, hww⟩; rw [hww]; clear hww w')
        | (go_at_call 26; refine (hexUpper_any _ hv0 hv1 _).mono ?_; rintro e w' ⟨rfl, hww⟩; rw [hww]; clear hww w')
        | (at_builtin; refine wpList_append_fits _ rfl (.tmp 43) (.tmp 48) 22 rfl w.heap.size 5 i0 1 Try.underlying22 hi hz1 (w.heap.size + 1) (2 + k) 6 _ rfl (hownS.alloc _) ⟨wr.heap.size, 0, none⟩ 1 1 [.int .u8 (hl v)] rfl rfl (by intro t u ht; match t, ht with | 0, ht => (simp at ht; subst ht; simp [Addr.add])) (by simp [Value.oneCell']) (by omega) ?_; intro w5 hownS5 hgrow5; have hownI5 := (hownI.alloc _).kept hgrow5 (by simp [Value.ownBlock]; omega); have hA5 := (hA.alloc _).grown hgrow5 (by simp); have hB5 := (hB.alloc (by omega) _).grown hgrow5 (by simp; omega) (by simp); have hc5 : w5.cell? ⟨w.heap.size, k, none⟩ = some (.int .u8 v) := hgrow5.cell (by rw [((Below.refl wr.heap.size wr).alloc (Nat.le_refl _) _).cell (by exact block_lt hv)]; exact hv) (by simp); have hs5 : w2.heap.size < w5.heap.size := (hownI5.lt _ rfl).2; rw [map_push] at hownS5; clear hgrow5)
        | (at_builtin; refine wpList_append_fits _ rfl (.tmp 56) (.tmp 61) 22 rfl w.heap.size 5 i0 1 Try.underlying22 hi hz1 w2.heap.size (2 + k) 7 _ rfl (hownI5.alloc _) ⟨w5.heap.size, 0, none⟩ 1 1 [.int .u8 (hu v)] rfl rfl (by intro t u ht; match t, ht with | 0, ht => (simp at ht; subst ht; simp [Addr.add])) (by simp [Value.oneCell']) (by omega) ?_; intro w6 hownI6 hgrow6; have hownS6 := (hownS5.alloc _).kept hgrow6 (by simp [Value.ownBlock]; omega); have hA6 := (hA5.alloc _).grown hgrow6 (by simp; omega); have hB6 := (hB5.alloc (by omega) _).grown hgrow6 (by simp; omega) (by simp; omega); have hs6 : w2.heap.size < w6.heap.size := (hownI6.lt _ rfl).2; rw [map_push] at hownI6; clear hgrow6; have hf := hu_fits v)
        | (at_builtin; refine wpList_append_fits _ rfl (.tmp 63) (.tmp 68) 22 rfl w.heap.size 5 i0 1 Try.underlying22 hi hz1 w2.heap.size (2 + k) 7 _ rfl (hownI5.alloc _) ⟨w5.heap.size, 0, none⟩ 1 1 [.int .u8 (hl v)] rfl rfl (by intro t u ht; match t, ht with | 0, ht => (simp at ht; subst ht; simp [Addr.add])) (by simp [Value.oneCell']) (by omega) ?_; intro w6 hownI6 hgrow6; have hownS6 := (hownS5.alloc _).kept hgrow6 (by simp [Value.ownBlock]; omega); have hA6 := (hA5.alloc _).grown hgrow6 (by simp; omega); have hB6 := (hB5.alloc (by omega) _).grown hgrow6 (by simp; omega) (by simp; omega); have hs6 : w2.heap.size < w6.heap.size := (hownI6.lt _ rfl).2; rw [map_push] at hownI6; clear hgrow6; have hf := hl_fits v))
      all_goals
        clear hownS hownI hA hB hs hownI5 hA5 hB5 hs5 hownS5
        go_roundw
        case rel => exact ⟨k + 1, _, _, by omega, by go_num, rfl, rfl, hP.push hf, hownS6, hownI6, hA6, hB6, hs6⟩
        case measure => simp [intOf]; omega
    · obtain rfl : k = 4 := by omega
      clear hA
      cases ht
      · have hcv : (convert 22 9 (.slice (some ⟨w.heap.size + 1, 0, none⟩) 6 6)).run Try.prog wr = .ok (.string (strOfNums (92 :: 117 :: ys))) wr := fin_conv hownS
        have HSP := fin_span (ts := []) (n := 6) hP rfl (by simp) (fun i hi => by simp at hi) (by rw [List.append_nil]; exact hownI)
        clear hownS hownI hP
        go_wp2_with (go_at_call 27; go_must (refine HSP.mono ?_; rintro e w' ⟨rfl, hbw⟩))
        go_ret
        exact ⟨rfl, hB.trans (hbw.mono hB.size)⟩
      · go_wp2_with (first
          | (at_builtin; go_must (refine wpList_append_fits _ rfl (.tmp 71) (.tmp 73) 22 rfl w.heap.size 5 i0 1 Try.underlying22 hi hz1 w2.heap.size (2 + 4) 7 _ rfl (hownI.alloc _) ⟨wr.heap.size, 0, none⟩ 1 1 [.int .u8 tl] rfl rfl (by intro t u ht; match t, ht with | 0, ht => (simp at ht; subst ht; simp [Addr.add])) (by simp [Value.oneCell']) (by omega) ?_; intro w5 hownI5 hgrow5; have hownS5 := (hownS.alloc _).kept hgrow5 (by simp [Value.ownBlock]; omega); have hB5 := (hB.alloc hB.size _).grown hgrow5 (by have := hB.size; simp; omega) (by simp; omega); have hcv : (convert 22 9 (.slice (some ⟨w.heap.size + 1, 0, none⟩) 6 6)).run Try.prog w5 = .ok (.string (strOfNums (92 :: 117 :: ys))) w5 := fin_conv hownS5; rw [map_push] at hownI5; have HSP := fin_span (ts := [tl]) (n := 7) hP rfl (by simp) (fun i hi => by (have : i = 0 := by simpa using hi); subst this; exact ⟨ht0, ht1⟩) hownI5; clear hownS hownI hgrow5 hownS5 hownI5))
          | (go_at_call 27; go_must (refine HSP.mono ?_; rintro e w' ⟨rfl, hbw⟩)))
        go_ret
        exact ⟨rfl, hB5.trans (hbw.mono hB5.size)⟩
end Go.Proofs.Qxb6001665a.Sp
