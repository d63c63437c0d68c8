namespace Go.Proofs.Ybulkctis
/-- what the plain model counts, from bit k on -/
def mo (a b : Nat) : Nat → Nat → Nat → Nat
  | 0, _, _ => 0
  | f + 1, k, rem => if (a ||| b).testBit k then (match rem with | 0 => 0 | r + 1 => (if (a &&& b).testBit k then 1 else 0) + mo a b f (k + 1) r) else mo a b f (k + 1) rem

/-- the set bits of a from k on, f of them looked at -/
def bitsFrom (a : Nat) : Nat → Nat → List Nat
  | 0, _ => []
  | f + 1, k => if a.testBit k then k :: bitsFrom a f (k + 1) else bitsFrom a f (k + 1)

/-- what the merge counts, on lists -/
def sh : Nat → List Nat → List Nat → Nat
  | 0, _, _ => 0
  | r + 1, x :: xs, y :: ys => if x = y then 1 + sh r xs ys else if x < y then sh r xs (y :: ys) else sh r (x :: xs) ys
  | _ + 1, _, _ => 0

theorem bitsFrom_ge (a f k : Nat) : ∀ x ∈ bitsFrom a f k, k ≤ x ∧ x < k + f := by
  induction f generalizing k with
  | zero => intro x hx; cases hx
  | succ f ih =>
    intro x hx
    unfold bitsFrom at hx
    split at hx
    · rcases List.mem_cons.1 hx with rfl | hx
      · omega
      · have := ih (k + 1) x hx; omega
    · have := ih (k + 1) x hx; omega

theorem sh_nil_left (r : Nat) (l : List Nat) : sh r [] l = 0 := by cases r <;> simp [sh]
theorem sh_nil_right (r : Nat) (l : List Nat) : sh r l [] = 0 := by cases r <;> cases l <;> simp [sh]

theorem sh_mo (a b f k rem : Nat) : sh rem (bitsFrom a f k) (bitsFrom b f k) = mo a b f k rem := by
  induction f generalizing k rem with
  | zero => simp [bitsFrom, mo, sh_nil_left]
  | succ f ih =>
    unfold mo
    have ga := bitsFrom_ge a f (k + 1)
    have gb := bitsFrom_ge b f (k + 1)
    rw [Nat.testBit_or, Nat.testBit_and]
    by_cases ha : a.testBit k = true
    · have ea : bitsFrom a (f + 1) k = k :: bitsFrom a f (k + 1) := by rw [bitsFrom, if_pos ha]
      by_cases hb : b.testBit k = true
      · have eb : bitsFrom b (f + 1) k = k :: bitsFrom b f (k + 1) := by rw [bitsFrom, if_pos hb]
        rw [ea, eb]
        cases rem with
        | zero => simp [sh, ha]
        | succ r => simp [sh, ha, hb, ih]
      · have eb : bitsFrom b (f + 1) k = bitsFrom b f (k + 1) := by rw [bitsFrom, if_neg hb]
        rw [ea, eb]
        cases rem with
        | zero => simp [sh, ha]
        | succ r =>
          simp only [ha, Bool.true_or, if_true, hb, Bool.and_false, Bool.false_eq_true, if_false, Nat.zero_add]
          rw [← ih]
          cases hB : bitsFrom b f (k + 1) with
          | nil => rw [sh_nil_right, sh_nil_right]
          | cons y ys =>
            have := gb y (by rw [hB]; simp)
            rw [sh, if_neg (by omega), if_pos (by omega)]
    · have ea : bitsFrom a (f + 1) k = bitsFrom a f (k + 1) := by rw [bitsFrom, if_neg ha]
      by_cases hb : b.testBit k = true
      · have eb : bitsFrom b (f + 1) k = k :: bitsFrom b f (k + 1) := by rw [bitsFrom, if_pos hb]
        rw [ea, eb]
        cases rem with
        | zero => simp [sh, hb]
        | succ r =>
          simp only [ha, hb, Bool.or_true, if_true, Bool.false_and, Bool.false_eq_true, if_false, Nat.zero_add]
          rw [← ih]
          cases hA : bitsFrom a f (k + 1) with
          | nil => rw [sh_nil_left, sh_nil_left]
          | cons x xs =>
            have := ga x (by rw [hA]; simp)
            rw [sh, if_neg (by omega), if_neg (by omega)]
      · have eb : bitsFrom b (f + 1) k = bitsFrom b f (k + 1) := by rw [bitsFrom, if_neg hb]
        rw [ea, eb]
        simp [ha, hb, ih]

theorem mo_comm (a b f k rem : Nat) : mo a b f k rem = mo b a f k rem := by
  induction f generalizing k rem with
  | zero => rfl
  | succ f ih =>
    unfold mo
    rw [Nat.or_comm, Nat.and_comm]
    split
    · cases rem with
      | zero => rfl
      | succ r => simp only [ih]
    · exact ih _ _
theorem mo_le (a b f k rem : Nat) : mo a b f k rem ≤ rem := by
  induction f generalizing k rem with
  | zero => exact Nat.zero_le _
  | succ f ih =>
    unfold mo
    split
    · cases rem with
      | zero => exact Nat.le_refl _
      | succ r =>
        have := ih (k + 1) r
        simp only
        split <;> omega
    · exact ih _ _

theorem mo_zero {a b f k rem : Nat} (h : (a ||| b).testBit k = false) : mo a b (f + 1) k rem = mo a b f (k + 1) rem := by
  conv => lhs; unfold mo
  simp [h]
theorem mo_stop {a b f k : Nat} (h : (a ||| b).testBit k = true) : mo a b (f + 1) k 0 = 0 := by unfold mo; simp [h]
theorem mo_both {a b f k r : Nat} (h : (a ||| b).testBit k = true) (h' : (a &&& b).testBit k = true) : mo a b (f + 1) k (r + 1) = 1 + mo a b f (k + 1) r := by rw [mo]; simp [h, h']
theorem mo_one {a b f k r : Nat} (h : (a ||| b).testBit k = true) (h' : (a &&& b).testBit k = false) : mo a b (f + 1) k (r + 1) = mo a b f (k + 1) r := by rw [mo]; simp [h, h']

/-- the list of a's bits is strictly ascending -/
theorem bitsFrom_sorted (a f k : Nat) : (bitsFrom a f k).Pairwise (· < ·) := by
  induction f generalizing k with
  | zero => exact List.Pairwise.nil
  | succ f ih =>
    unfold bitsFrom
    split
    · exact List.Pairwise.cons (fun x hx => by have := bitsFrom_ge a f (k + 1) x hx; omega) (ih _)
    · exact ih _
theorem bitsFrom_length (a f k : Nat) : (bitsFrom a f k).length ≤ f := by
  induction f generalizing k with
  | zero => exact Nat.le_refl _
  | succ f ih =>
    unfold bitsFrom
    have := ih (k + 1)
    split
    · simp; omega
    · omega
end Go.Proofs.Ybulkctis
