/-
  The contract of zzCloneBytesG1: a copy of a slice of bytes, in new memory.
-/
import Derived.Test.Qxb6001665aSlashes
import Derived.WalkKit
import Derived.Laws.CopyOwn
import Derived.WalkSpells
namespace Go.Proofs.Qxb6001665a.By
open Go.RowKit

theorem info5 : (Try.prog.info? 5).map (fun i => (i.zero, i.size, i.bytes)) = some (some (.int .u8 0), 1, 1) := by kernel_rfl

theorem own_block {w : World} {base : Nat} {e : TypeId} {g n cap : Nat} {xs : List Value} (h : w.ownsRow base e 1 (.slice (some ⟨g, 0, none⟩) n cap) n xs) :
    ∃ cur : List Value, w.heap[g]? = some (.cells cur.toArray e (0, 0)) ∧ cur.length = cap ∧ n ≤ cap := by
  obtain ⟨_, ⟨h1, _⟩ | ⟨g', cap', cur, h1, _, h2, h3, _, h4, _⟩⟩ := h
  · simp at h1
  · simp only [Value.slice.injEq, Option.some.injEq, Addr.mk.injEq] at h1
    obtain ⟨⟨rfl, _, _⟩, _, rfl⟩ := h1
    exact ⟨cur.toList, by simpa using h2, by simpa using h4, h3⟩

/-- a row's cells, one by one -/
theorem row_cells {w : World} {g : Nat} {e : TypeId} {zs : List Int} (h : w.heap[g]? = some (.cells (zs.map (Value.int .u8)).toArray e (0, 0))) :
    ∀ i, i < zs.length → w.cell? ⟨g, 0 + i, none⟩ = some (.int .u8 (zs.getD i 0)) := by
  intro i hi
  simp [World.cell?, h, hi]

/-- what a clone leaves: a slice of the same bytes; nothing old has turned -/
def Cloned (w : World) (zs : List Int) (e : Ending) (w' : World) : Prop :=
  ∃ ao' cap', e = .returned (.slice ao' zs.length cap') ∧ Bs w' ao' zs ∧ Below w.heap.size w w'

theorem splice_all {α : Type} (L cs : List α) (h : cs.length = L.length) : splice L 0 cs = cs := by
  unfold splice; simp [h]

/-- the source's cells, in the world behind the make -/
theorem src_cells {w w1 : World} {x : Addr} {zs : List Int} (hz : Bs w (some x) zs) (hb : Below w.heap.size w w1) :
    0 < (zs.map (Value.int .u8)).length → ∃ ad, some x = some ad ∧ ∀ j v, (zs.map (Value.int .u8))[j]? = some v → w1.cell? (ad.add j) = some v := by
  intro hp
  rcases hz with h | ⟨b, off, h, hc⟩
  · simp [h] at hp
  · refine ⟨x, rfl, ?_⟩
    obtain rfl : x = ⟨b, off, none⟩ := by simpa using h
    intro j v hj
    rw [List.getElem?_map] at hj
    obtain ⟨c, hcj, rfl⟩ := Option.map_eq_some_iff.1 hj
    obtain ⟨hlt, hcj'⟩ := List.getElem?_eq_some_iff.1 hcj
    have h1 := hc j hlt
    have hbl : b < w.heap.size := by
      have h2 := hc j hlt
      unfold World.cell? at h2
      by_cases hb' : b < w.heap.size
      · exact hb'
      · rw [Array.getElem?_eq_none (by simpa using hb')] at h2; simp at h2
    rw [show (Addr.add ⟨b, off, none⟩ j) = ⟨b, off + j, none⟩ from by simp [Addr.add]]
    rw [hb.cell (by exact hbl), h1]
    simp [hcj]

theorem clone_any (ao : Option Addr) (cap : Nat) (zs : List Int) (w : World) (hz : Bs w ao zs) (hn : ao = none → zs = [] ∧ cap = 0) (hl : zs.length ≤ 1073741824) :
    Calls Try.prog 14 #[.slice ao zs.length cap] w fun e w' => Cloned w zs e w' := by
  have q22 : ∀ (w : World) (a : Option Addr) (n c n' c' : Nat), (binOp .eql 22 (.slice a n c) (.slice none n' c')).run Try.prog w = .ok (.bool a.isNone) w := fun w a n c n' c' => Lib.run_eql_slice_nil w _ _ a n c n' c' Try.underlying22
  cases ao with
  | none =>
    obtain ⟨rfl, rfl⟩ := hn rfl
    go_enter Try.func14, Try.ntmps14
    go_wp2
    go_ret
    exact ⟨_, _, rfl, .inl rfl, Below.refl _ _⟩
  | some x =>
    obtain ⟨i0, hi, hz0, hz1, hz2⟩ := info_parts info5
    have hsz : (Try.prog.info? 5).map (·.size) = some 1 := by rw [hi]; simpa using hz1
    clear hn
    go_enter Try.func14, Try.ntmps14
    go_wp2_with (first
      | (at_make; go_must (refine wpList_make_full _ rfl (.tmp 7) (.tmp 7) 22 rfl w.heap.size 5 i0 (.int .u8 0) 1 Try.underlying22 hi hz0 hz1 .i64 .i64 zs.length zs.length zs.length rfl rfl rfl rfl (by rw [hz2]; omega) (by unfold maxLen; omega) (Nat.le_refl _) ?_; intro w1 hown hgrow; obtain ⟨cur, hg, hcl, hcl'⟩ := own_block hown; have hb : Below w.heap.size w w1 := (Below.refl _ _).grown hgrow (Nat.le_refl _) (by simp); have hsc := src_cells hz hb; clear hown hgrow))
      | (refine wpList_copy_splice rfl (.tmp 9) (.tmp 10) 22 22 rfl 5 Try.underlying22 hsz _ _ _ _ _ _ rfl rfl w.heap.size 0 cur 5 hg (zs.map (Value.int .u8)) (by simp [Nat.min_def]) (fun hp => ⟨rfl, hsc hp⟩) (by simp [hcl]) (by simp [Value.oneCell']) w.heap.size w hb (Nat.le_refl _) ?_; intro w2 hg2 hb2))
    go_ret
    refine ⟨_, _, rfl, .inr ⟨w.heap.size, 0, rfl, row_cells (e := 5) ?_⟩, hb2⟩
    have h := hg2.out
    rw [splice_all _ _ (by simp [hcl])] at h
    exact h

/-- what is read below a number of blocks is read so still -/
theorem Bs.below {w w' : World} {ao : Option Addr} {zs : List Int} (h : Bs w ao zs) (hb : Below w.heap.size w w') : Bs w' ao zs := by
  rcases h with h | ⟨b, off, rfl, hc⟩
  · exact .inl h
  · refine .inr ⟨b, off, rfl, fun i hi => ?_⟩
    have h1 := hc i hi
    have hbl : b < w.heap.size := by
      have h2 := h1
      unfold World.cell? at h2
      by_cases hb' : b < w.heap.size
      · exact hb'
      · rw [Array.getElem?_eq_none (by simpa using hb')] at h2; simp at h2
    rw [hb.cell (by exact hbl), h1]

/-- a slice that came in, as the shells tell it, as bytes to be read -/
theorem row_bs {w : World} {a : Option Addr} {len cap : Nat} {zs : List Int}
    (h : (a = none ∧ len = 0 ∧ cap = 0 ∧ zs = []) ∨
      ∃ x, a = some x ∧ len ≤ cap ∧ cap ≤ maxLen ∧ zs.length = cap ∧ (∀ i, i < zs.length → w.cell? (x.add i) = some (.int .u8 (zs.getD i 0))) ∧ ∀ n ∈ zs, (Lit.int .u8 n).wf = true) :
    ∃ ys : List Int, len = ys.length ∧ Bs w a ys ∧ (a = none → ys = [] ∧ cap = 0) ∧ ∀ n ∈ ys, (Lit.int .u8 n).wf = true := by
  rcases h with ⟨rfl, rfl, rfl, rfl⟩ | ⟨x, rfl, hl, hm, hz, hc, hw⟩
  · exact ⟨[], rfl, .inl rfl, fun _ => ⟨rfl, rfl⟩, by simp⟩
  · refine ⟨zs.take len, by simp; omega, ?_, by simp, fun n hn => hw n (List.mem_of_mem_take hn)⟩
    by_cases h0 : 0 < len
    · obtain ⟨b, off, spot⟩ := x
      have hspot : spot = none := by simpa [Addr.add] using World.cell?_spot (hc 0 (by omega))
      subst hspot
      refine .inr ⟨b, off, rfl, fun i hi => ?_⟩
      have hi' : i < len ∧ i < zs.length := by simpa [Nat.lt_min] using hi
      have h1 := hc i hi'.2
      rw [show (Addr.add ⟨b, off, none⟩ i) = ⟨b, off + i, none⟩ from by simp [Addr.add]] at h1
      rw [h1]
      simp [hi'.1]
    · have : len = 0 := by omega
      subst this
      exact .inl (by simp)
end Go.Proofs.Qxb6001665a.By
