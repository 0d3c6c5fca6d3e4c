/-
  THE PLAIN LAW of FnNumberEndMatchesAutomaton, no Go in sight: the number's end by its parts (numE) and by the automaton (run, chk) are one.
-/
namespace Go.Proofs.Qxb6001665a.Num

/-- a digit -/
def dg (c : Int) : Bool := decide (48 ≤ c ∧ c ≤ 57)
/-- how many digits a text begins with -/
def dlen : List Int → Nat
  | [] => 0
  | c :: r => if dg c = true then dlen r + 1 else 0

/-- the byte at a place -/
def at' (zs : List Int) (i : Nat) : Int := zs.getD i 0
/-- is there a byte at the place, and is it such -/
def isAt (zs : List Int) (i : Nat) (p : Int → Bool) : Bool := decide (i < zs.length) && p (at' zs i)
def ex (c : Int) : Bool := decide (c = 101 ∨ c = 69)
def sg (c : Int) : Bool := decide (c = 43 ∨ c = 45)

/-- where the digits that begin at a place end -/
def dEnd (zs : List Int) (i : Nat) : Nat := i + dlen (zs.drop i)

def expE (zs : List Int) (j : Nat) : Option Nat :=
  let a := if isAt zs j sg = true then j + 1 else j
  if dEnd zs a = a then none else some (dEnd zs a)
def fracE (zs : List Int) (j : Nat) : Option Nat := if isAt zs j ex = true then expE zs (j + 1) else some j
def intE (zs : List Int) (j : Nat) : Option Nat :=
  if isAt zs j (· == 46) = true then (if dEnd zs (j + 1) = j + 1 then none else fracE zs (dEnd zs (j + 1))) else fracE zs j
def sgnE (zs : List Int) (j : Nat) : Option Nat :=
  if isAt zs j (· == 48) = true then intE zs (j + 1) else if isAt zs j dg = true then intE zs (dEnd zs j) else none
def numE (zs : List Int) (s : Nat) : Option Nat := sgnE zs (if isAt zs s (· == 45) = true then s + 1 else s)
/-- what numberEnd answers -/
def ans : Option Nat → Int × Bool
  | none => (0, false)
  | some e => ((e : Int), true)

/-- the automaton's step -/
def step (st c : Int) : Int :=
  if st = 0 then (if c = 45 then 1 else if c = 48 then 2 else if dg c = true then 3 else -1)
  else if st = 1 then (if c = 48 then 2 else if dg c = true then 3 else -1)
  else if st = 2 then (if c = 46 then 4 else if ex c = true then 6 else -1)
  else if st = 3 then (if dg c = true then 3 else if c = 46 then 4 else if ex c = true then 6 else -1)
  else if st = 4 then (if dg c = true then 5 else -1)
  else if st = 5 then (if dg c = true then 5 else if ex c = true then 6 else -1)
  else if st = 6 then (if sg c = true then 7 else if dg c = true then 8 else -1)
  else if st = 7 ∨ st = 8 then (if dg c = true then 8 else -1)
  else -1
def acc (st : Int) : Bool := decide (st = 2 ∨ st = 3 ∨ st = 5 ∨ st = 8)
/-- the automaton over a text: the last place at which it accepted, and its state there -/
def run : List Int → Int → Nat → Int × Int → Int × Int
  | [], _, _, b => b
  | c :: r, st, i, b => if step st c < 0 then b else run r (step st c) (i + 1) (if acc (step st c) = true then (((i + 1 : Nat) : Int), step st c) else b)
/-- what the model makes of it -/
def chk (zs : List Int) (b : Int × Int) : Int × Bool :=
  if b.1 < 0 then (0, false)
  else if isAt zs b.1.toNat (· == 46) = true ∧ (b.2 = 2 ∨ b.2 = 3) then (0, false)
  else if isAt zs b.1.toNat ex = true ∧ (b.2 = 2 ∨ b.2 = 3 ∨ b.2 = 5) then (0, false)
  else (b.1, true)

theorem drop_at (zs : List Int) (i : Nat) (h : i < zs.length) : zs.drop i = at' zs i :: zs.drop (i + 1) := by
  have e : at' zs i = zs[i] := by simp [at', h]
  rw [e, List.drop_eq_getElem_cons h]
theorem isAt_true {zs : List Int} {i : Nat} {p : Int → Bool} : isAt zs i p = true ↔ i < zs.length ∧ p (at' zs i) = true := by simp [isAt]
theorem isAt_false {zs : List Int} {i : Nat} {p : Int → Bool} : isAt zs i p = false ↔ (i < zs.length → p (at' zs i) = false) := by
  simp [isAt]

theorem dEnd_end (zs : List Int) (i : Nat) (h : zs.length ≤ i) : dEnd zs i = i := by
  unfold dEnd; rw [List.drop_of_length_le h]; rfl
theorem dEnd_dg {zs : List Int} {i : Nat} (h : isAt zs i dg = true) : dEnd zs i = dEnd zs (i + 1) := by
  obtain ⟨h1, h2⟩ := isAt_true.1 h
  unfold dEnd; rw [drop_at zs i h1]; simp only [dlen, if_pos h2]; omega
theorem dEnd_no {zs : List Int} {i : Nat} (h : isAt zs i dg = false) : dEnd zs i = i := by
  by_cases hl : i < zs.length
  · have h2 := isAt_false.1 h hl
    unfold dEnd; rw [drop_at zs i hl]; simp [dlen, h2]
  · exact dEnd_end zs i (by omega)
theorem dlen_le : ∀ l : List Int, dlen l ≤ l.length
  | [] => Nat.le_refl _
  | c :: r => by unfold dlen; have := dlen_le r; split <;> simp <;> omega
theorem dEnd_ge (zs : List Int) (i : Nat) : i ≤ dEnd zs i := by unfold dEnd; omega
theorem dEnd_le (zs : List Int) (i : Nat) (h : i ≤ zs.length) : dEnd zs i ≤ zs.length := by
  unfold dEnd; have := dlen_le (zs.drop i); simp at this; omega
/-- behind the digits stands no digit -/
theorem dEnd_stop (zs : List Int) : ∀ (n i : Nat), zs.length - i ≤ n → isAt zs (dEnd zs i) dg = false
  | 0, i, h => by rw [dEnd_end zs i (by omega)]; exact isAt_false.2 fun hl => by omega
  | n + 1, i, h => by
    cases hd : isAt zs i dg with
    | false => rw [dEnd_no hd]; exact hd
    | true =>
      rw [dEnd_dg hd]
      exact dEnd_stop zs n (i + 1) (by have := (isAt_true.1 hd).1; omega)

/-- the automaton from a place on -/
def R (zs : List Int) (i : Nat) (st : Int) (b : Int × Int) : Int × Int := run (zs.drop i) st i b
theorem R_end {zs : List Int} {i : Nat} (st : Int) (b : Int × Int) (h : zs.length ≤ i) : R zs i st b = b := by
  unfold R; rw [List.drop_of_length_le h]; rfl
theorem R_stop {zs : List Int} {i : Nat} {st : Int} (b : Int × Int) (hs : i < zs.length → step st (at' zs i) < 0) : R zs i st b = b := by
  by_cases h : i < zs.length
  · unfold R; rw [drop_at zs i h]; simp only [run, if_pos (hs h)]
  · exact R_end st b (by omega)
theorem R_go {zs : List Int} {i : Nat} {st : Int} (t : Int) (b : Int × Int) (h : i < zs.length) (ht : step st (at' zs i) = t) (h0 : 0 ≤ t) :
    R zs i st b = R zs (i + 1) t (if acc t = true then (((i + 1 : Nat) : Int), t) else b) := by
  unfold R; rw [drop_at zs i h]; simp only [run, ht]; rw [if_neg (by omega)]

theorem step3 {c : Int} (h : dg c = true) : step 3 c = 3 := by simp [step, h]
theorem step5 {c : Int} (h : dg c = true) : step 5 c = 5 := by simp [step, h]
theorem step8 {c : Int} (h : dg c = true) : step 8 c = 8 := by simp [step, h]

/-- over digits the automaton stays where it is -/
theorem R_digits (zs : List Int) (st : Int) (hst : st = 3 ∨ st = 5 ∨ st = 8) : ∀ (n i : Nat), zs.length - i ≤ n → R zs i st ((i : Int), st) = R zs (dEnd zs i) st (((dEnd zs i : Nat) : Int), st)
  | 0, i, h => by rw [dEnd_end zs i (by omega)]
  | n + 1, i, h => by
    cases hd : isAt zs i dg with
    | false => rw [dEnd_no hd]
    | true =>
      obtain ⟨hl, hg⟩ := isAt_true.1 hd
      have hstep : step st (at' zs i) = st := by
        rcases hst with rfl | rfl | rfl
        · exact step3 hg
        · exact step5 hg
        · exact step8 hg
      have ha : acc st = true := by rcases hst with rfl | rfl | rfl <;> rfl
      rw [R_go st _ hl hstep (by omega), if_pos ha, R_digits zs st hst n (i + 1) (by omega), ← dEnd_dg hd]

theorem R8 (zs : List Int) (i : Nat) : R zs i 8 ((i : Int), 8) = (((dEnd zs i : Nat) : Int), 8) := by
  rw [R_digits zs 8 (by omega) (zs.length - i) i (Nat.le_refl _)]
  refine R_stop _ fun hl => ?_
  have h := isAt_false.1 (dEnd_stop zs (zs.length - i) i (Nat.le_refl _)) hl
  simp [step, h]

theorem dEnd_ne {zs : List Int} {i : Nat} (h : isAt zs i dg = true) : dEnd zs i ≠ i := by
  rw [dEnd_dg h]; have := dEnd_ge zs (i + 1); omega

/-- behind the exponent's letter -/
theorem R6 (zs : List Int) (j : Nat) (b : Int × Int) : R zs j 6 b = match expE zs j with | some e => ((e : Int), 8) | none => b := by
  unfold expE
  cases hs : isAt zs j sg with
  | true =>
    obtain ⟨hl, hg⟩ := isAt_true.1 hs
    rw [R_go 7 b hl (by simp [step, hg]) (by omega)]
    simp only [if_true]
    rw [if_neg (by decide)]
    cases hd : isAt zs (j + 1) dg with
    | true =>
      obtain ⟨hl2, hg2⟩ := isAt_true.1 hd
      rw [R_go 8 b hl2 (by simp [step, hg2]) (by omega), if_pos (by decide), R8, if_neg (dEnd_ne hd), ← dEnd_dg hd]
    | false =>
      rw [R_stop b (fun h => by simp [step, isAt_false.1 hd h]), if_pos (dEnd_no hd)]
  | false =>
    simp only [Bool.false_eq_true, if_false]
    cases hd : isAt zs j dg with
    | true =>
      obtain ⟨hl2, hg2⟩ := isAt_true.1 hd
      rw [R_go 8 b hl2 (by simp [step, hg2, isAt_false.1 hs hl2]) (by omega), if_pos (by decide), R8, if_neg (dEnd_ne hd), ← dEnd_dg hd]
    | false =>
      rw [R_stop b (fun h => by simp [step, isAt_false.1 hd h, isAt_false.1 hs h]), if_pos (dEnd_no hd)]

theorem chk8 (zs : List Int) (e : Nat) : chk zs ((e : Int), 8) = ((e : Int), true) := by
  unfold chk
  simp

/-- the exponent, or the number's end -/
theorem Rfrac (zs : List Int) (j : Nat) (st : Int) (hst : st = 2 ∨ st = 3 ∨ st = 5) (hp : isAt zs j (· == 46) = false ∨ st = 5) (hd : isAt zs j dg = false ∨ st = 2) :
    chk zs (R zs j st ((j : Int), st)) = ans (fracE zs j) := by
  unfold fracE
  cases he : isAt zs j ex with
  | true =>
    obtain ⟨hl, hx⟩ := isAt_true.1 he
    have h46 : at' zs j ≠ 46 := by
      intro h; rw [h] at hx; simp [ex] at hx
    have hnd : dg (at' zs j) = false := by
      simp only [ex, decide_eq_true_eq] at hx
      simp only [dg, decide_eq_false_iff_not]; omega
    have hstep : step st (at' zs j) = 6 := by
      rcases hst with rfl | rfl | rfl <;> simp [step, hx, h46, hnd]
    rw [R_go 6 _ hl hstep (by omega), if_neg (by decide), R6]
    simp only [if_true]
    cases hE : expE zs (j + 1) with
    | some e => exact chk8 zs e
    | none =>
      show chk zs ((j : Int), st) = (0, false)
      unfold chk
      have e46 : isAt zs j (· == 46) = false := isAt_false.2 fun _ => by simpa using h46
      simp [he, e46, hst]
  | false =>
    have hstop : R zs j st ((j : Int), st) = ((j : Int), st) := by
      refine R_stop _ fun hl => ?_
      have hx := isAt_false.1 he hl
      rcases hst with rfl | rfl | rfl
      · have h46 : at' zs j ≠ 46 := by
          rcases hp with h | h
          · simpa using isAt_false.1 h hl
          · omega
        simp [step, hx, h46]
      · have h46 : at' zs j ≠ 46 := by
          rcases hp with h | h
          · simpa using isAt_false.1 h hl
          · omega
        have hnd : dg (at' zs j) = false := by
          rcases hd with h | h
          · exact isAt_false.1 h hl
          · omega
        simp [step, hx, h46, hnd]
      · have hnd : dg (at' zs j) = false := by
          rcases hd with h | h
          · exact isAt_false.1 h hl
          · omega
        simp [step, hx, hnd]
    rw [hstop]
    simp only [Bool.false_eq_true, if_false]
    show chk zs ((j : Int), st) = ((j : Int), true)
    unfold chk
    rcases hp with h | rfl
    · simp [he, h]
    · simp [he]

theorem Rint (zs : List Int) (j : Nat) (st : Int) (hst : st = 2 ∨ st = 3) (hd : isAt zs j dg = false ∨ st = 2) :
    chk zs (R zs j st ((j : Int), st)) = ans (intE zs j) := by
  unfold intE
  cases hp : isAt zs j (· == 46) with
  | false =>
    simp only [Bool.false_eq_true, if_false]
    exact Rfrac zs j st (by omega) (.inl hp) hd
  | true =>
    obtain ⟨hl, hx⟩ := isAt_true.1 hp
    have h46 : at' zs j = 46 := by simpa using hx
    have hstep : step st (at' zs j) = 4 := by
      rw [h46]; rcases hst with rfl | rfl <;> decide
    rw [R_go 4 _ hl hstep (by omega), if_neg (by decide)]
    simp only [if_true]
    cases hd1 : isAt zs (j + 1) dg with
    | false =>
      rw [R_stop _ (fun h => by simp [step, isAt_false.1 hd1 h]), if_pos (dEnd_no hd1)]
      show chk zs ((j : Int), st) = (0, false)
      unfold chk
      simp [hp, hst]
    | true =>
      obtain ⟨hl1, hg1⟩ := isAt_true.1 hd1
      rw [R_go 5 _ hl1 (by simp [step, hg1]) (by omega), if_pos (by decide), R_digits zs 5 (by omega) (zs.length - (j + 1 + 1)) (j + 1 + 1) (Nat.le_refl _), if_neg (dEnd_ne hd1), ← dEnd_dg hd1]
      exact Rfrac zs _ 5 (by omega) (.inr rfl) (.inl (dEnd_stop zs (zs.length - (j + 1)) (j + 1) (Nat.le_refl _)))

/-- behind the sign, in the state 0 or 1 -/
theorem Rsgn (zs : List Int) (j : Nat) (st : Int) (hst : st = 1 ∨ (st = 0 ∧ isAt zs j (· == 45) = false)) :
    chk zs (R zs j st (-1, -1)) = ans (sgnE zs j) := by
  unfold sgnE
  have h45 : st = 0 → j < zs.length → at' zs j ≠ 45 := fun h hl => by
    rcases hst with h1 | ⟨_, h1⟩
    · omega
    · simpa using isAt_false.1 h1 hl
  have hst' : st = 0 ∨ st = 1 := by omega
  cases h0 : isAt zs j (· == 48) with
  | true =>
    obtain ⟨hl, hx⟩ := isAt_true.1 h0
    have h48 : at' zs j = 48 := by simpa using hx
    rw [R_go 2 _ hl (by rw [h48]; rcases hst' with rfl | rfl <;> decide) (by omega), if_pos (by decide)]
    simp only [if_true]
    exact Rint zs (j + 1) 2 (by omega) (.inr rfl)
  | false =>
    simp only [Bool.false_eq_true, if_false]
    cases hd : isAt zs j dg with
    | true =>
      obtain ⟨hl, hx⟩ := isAt_true.1 hd
      have h48 : at' zs j ≠ 48 := by simpa using isAt_false.1 h0 hl
      have hstep : step st (at' zs j) = 3 := by
        rcases hst' with rfl | rfl
        · simp [step, hx, h48, h45 rfl hl]
        · simp [step, hx, h48]
      rw [R_go 3 _ hl hstep (by omega), if_pos (by decide), R_digits zs 3 (by omega) (zs.length - (j + 1)) (j + 1) (Nat.le_refl _), ← dEnd_dg hd]
      simp only [if_true]
      exact Rint zs _ 3 (by omega) (.inl (dEnd_stop zs (zs.length - j) j (Nat.le_refl _)))
    | false =>
      have hstop : R zs j st (-1, -1) = (-1, -1) := by
        refine R_stop _ fun hl => ?_
        have h48 : at' zs j ≠ 48 := by simpa using isAt_false.1 h0 hl
        have hnd := isAt_false.1 hd hl
        rcases hst' with rfl | rfl
        · simp [step, hnd, h48, h45 rfl hl]
        · simp [step, hnd, h48]
      rw [hstop]
      simp [chk, ans]

/-- THE PLAIN LAW -/
theorem same (zs : List Int) (s : Nat) : chk zs (R zs s 0 (-1, -1)) = ans (numE zs s) := by
  unfold numE
  cases h : isAt zs s (· == 45) with
  | true =>
    obtain ⟨hl, hx⟩ := isAt_true.1 h
    have h45 : at' zs s = 45 := by simpa using hx
    rw [R_go 1 _ hl (by rw [h45]; decide) (by omega), if_neg (by decide)]
    simp only [if_true]
    exact Rsgn zs (s + 1) 1 (.inl rfl)
  | false =>
    simp only [Bool.false_eq_true, if_false]
    exact Rsgn zs s 0 (.inr ⟨rfl, h⟩)
end Go.Proofs.Qxb6001665a.Num
