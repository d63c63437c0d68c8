import Derived.Test.YbulkctjgAny
namespace Go.Proofs.Ybulkctjg
open Go.RowKit
set_option linter.unusedVariables false

section
variable {P : Program} {ops : Array Oper} {Q : Exit → Act → World → Prop}
theorem wpOp_run {i : Nat} {o : Oper} {a : Act} {w w' : World} {v : Value} {K : Act → World → Prop} (hi : ops[i]? = some o) (hg : o.guard = none) (hr : (execOp a.eval o).run P w = .ok (.value v) w') (hK : K (a.put o.dst v) w') : wpOp P ops Q i K a w := by
  unfold wpOp
  rw [hi]
  have hw : Region.wanted o (yielded ops a.tmps) = true := by unfold Region.wanted; rw [hg]
  simp only [hw, if_true]
  left
  unfold Oper.wp
  rw [hr]
  exact hK
end
theorem run_mk {ρ : Operand → Value} {o : Oper} {P : Program} (t : TypeId) (x : Operand) (h : o.op = .makeSlice t x x) {w w' : World} {v : Value} (hr : (Instr.makeSlice t (ρ x) (ρ x)).run P w = .ok v w') : (execOp ρ o).run P w = .ok (.value v) w' := by
  unfold execOp; rw [h]
  simp [hr, Result.andThen]
theorem run_bld {ρ : Operand → Value} {o : Oper} (h : o.op = .build 36 #[(0, .tmp 302), (1, .tmp 303), (2, .tmp 305), (3, .tmp 307), (4, .tmp 309), (6, .tmp 311), (9, .tmp 313), (10, .tmp 315)]) (w : World) (L pb pc nV b0 b1 b2 b3 b4 b5 N : Nat)
    (e0 : ρ (.tmp 302) = .pointer (some ⟨L, 0, none⟩)) (e1 : ρ (.tmp 303) = .slice (some ⟨pb, 0, none⟩) nV pc) (e2 : ρ (.tmp 305) = .slice (some ⟨b0, 0, none⟩) nV nV) (e3 : ρ (.tmp 307) = .slice (some ⟨b1, 0, none⟩) N N) (e4 : ρ (.tmp 309) = .slice (some ⟨b2, 0, none⟩) N N) (e5 : ρ (.tmp 311) = .slice (some ⟨b3, 0, none⟩) nV nV) (e6 : ρ (.tmp 313) = .slice (some ⟨b4, 0, none⟩) N N) (e7 : ρ (.tmp 315) = .slice (some ⟨b5, 0, none⟩) N N) :
    (execOp ρ o).run Yba.prog w = .ok (.value (.agg #[.pointer (some ⟨L, 0, none⟩), .slice (some ⟨pb, 0, none⟩) nV pc, .slice (some ⟨b0, 0, none⟩) nV nV, .slice (some ⟨b1, 0, none⟩) N N, .slice (some ⟨b2, 0, none⟩) N N, .slice none 0 0, .slice (some ⟨b3, 0, none⟩) nV nV, .int .i64 0, .slice none 0 0, .slice (some ⟨b4, 0, none⟩) N N, .slice (some ⟨b5, 0, none⟩) N N])) w := by
  unfold execOp; rw [h]
  go_simp
theorem run_bx {ρ : Operand → Value} {o : Oper} (h : o.op = .box 36 (.tmp 316)) (w : World) (L pb pc nV b0 b1 b2 b3 b4 b5 N : Nat)
    (e : ρ (.tmp 316) = .agg #[.pointer (some ⟨L, 0, none⟩), .slice (some ⟨pb, 0, none⟩) nV pc, .slice (some ⟨b0, 0, none⟩) nV nV, .slice (some ⟨b1, 0, none⟩) N N, .slice (some ⟨b2, 0, none⟩) N N, .slice none 0 0, .slice (some ⟨b3, 0, none⟩) nV nV, .int .i64 0, .slice none 0 0, .slice (some ⟨b4, 0, none⟩) N N, .slice (some ⟨b5, 0, none⟩) N N]) :
    (execOp ρ o).run Yba.prog w = .ok (.value (.pointer (some ⟨w.heap.size, 0, none⟩))) (w.alloc (.cells #[.pointer (some ⟨L, 0, none⟩), .slice (some ⟨pb, 0, none⟩) nV pc, .slice (some ⟨b0, 0, none⟩) nV nV, .slice (some ⟨b1, 0, none⟩) N N, .slice (some ⟨b2, 0, none⟩) N N, .slice none 0 0, .slice (some ⟨b3, 0, none⟩) nV nV, .int .i64 0, .slice none 0 0, .slice (some ⟨b4, 0, none⟩) N N, .slice (some ⟨b5, 0, none⟩) N N] 36)) := by
  unfold execOp; rw [h]
  go_simp

def dd (i : Nat) : Nat := if i = 16 then 33 else 302 + i
theorem dd_ne {i j : Nat} (hi : i < 17) (hj : j < 17) (h : i ≠ j) : dd i ≠ dd j := by unfold dd; split <;> split <;> omega
def isM (i : Nat) : Bool := i == 3 || i == 5 || i == 7 || i == 9 || i == 11 || i == 13
def isB (i : Nat) : Bool := isM i || i == 15
def tyM (i : Nat) : Nat := if i = 3 then 133 else if i = 5 then 33 else if i = 9 ∨ i = 13 then 3 else 48
def zM (i : Nat) : Value := if i = 3 ∨ i = 5 then .slice none 0 0 else if i = 9 ∨ i = 13 then .int .i64 0 else .int .i32 0
def cM (nV N i : Nat) : Nat := if i = 3 ∨ i = 9 then nV else N
def g59 (L pb pc nV N : Nat) (bl : Nat → Nat) : Array Value :=
  #[.pointer (some ⟨L, 0, none⟩), .slice (some ⟨pb, 0, none⟩) nV pc, .slice (some ⟨bl 3, 0, none⟩) nV nV, .slice (some ⟨bl 5, 0, none⟩) N N, .slice (some ⟨bl 7, 0, none⟩) N N, .slice none 0 0, .slice (some ⟨bl 9, 0, none⟩) nV nV, .int .i64 0, .slice none 0 0, .slice (some ⟨bl 11, 0, none⟩) N N, .slice (some ⟨bl 13, 0, none⟩) N N]
def vv (L pb pc nV N : Nat) (bl : Nat → Nat) (i : Nat) : Value :=
  if i = 0 then .pointer (some ⟨L, 0, none⟩) else if i = 1 then .slice (some ⟨pb, 0, none⟩) nV pc else if i = 2 ∨ i = 8 then .int .i64 (nV : Int) else if i = 4 ∨ i = 6 ∨ i = 10 ∨ i = 12 then .int .i64 (N : Int)
  else if isM i then .slice (some ⟨bl i, 0, none⟩) (cM nV N i) (cM nV N i) else if i = 14 then .agg (g59 L pb pc nV N bl) else .pointer (some ⟨bl 15, 0, none⟩)

structure J59 (L pb pc nV N : Nat) (a0 : Act) (w0 : World) (bl : Nat → Nat) (l : Nat → Bool) (a : Act) (w : World) : Prop where
  kp : Kp (fun _ => False) w0 w
  df : a.defers = a0.defers
  sz : a.tmps.size = a0.tmps.size
  ot : ∀ t, (∀ i, i < 17 → t ≠ dd i) → a.tmps[t]? = a0.tmps[t]?
  vl : ∀ i, i < 17 → l i = true → a.tmps[dd i]? = some (vv L pb pc nV N bl i)
  rw : ∀ i, isM i = true → l i = true → w.rowIs (bl i) (tyM i) (cM nV N i) (fun _ => zM i) ∧ w0.heap.size ≤ bl i
  ne : ∀ i j, i ≠ j → isB i = true → isB j = true → l i = true → l j = true → bl i ≠ bl j
  bx : l 15 = true → w.heap[bl 15]? = some (.cells (g59 L pb pc nV N bl) 36 (0, 0)) ∧ w0.heap.size ≤ bl 15
  d14 : l 14 = true → ∀ i, isM i = true → l i = true
  d15 : l 15 = true → l 14 = true
  d16 : l 16 = true → l 15 = true

theorem put_get (a : Act) (d : Nat) (v : Value) (t : Nat) (hd : d < a.tmps.size) : (a.put (some d) v).tmps[t]? = if t = d then some v else a.tmps[t]? := by
  show (a.tmps.setIfInBounds d v)[t]? = _
  by_cases e : t = d
  · subst e; rw [if_pos rfl]; simp [hd]
  · rw [if_neg e]; simp [Ne.symm e]

section
variable {L pb pc nV N : Nat} {a0 : Act} {w0 : World} {bl : Nat → Nat} {l l' : Nat → Bool} {a : Act} {w : World}

theorem isM_lt {i : Nat} (h : isM i = true) : i < 14 ∧ i ≠ 0 ∧ i ≠ 1 ∧ i ≠ 2 ∧ i ≠ 4 ∧ i ≠ 6 ∧ i ≠ 8 ∧ i ≠ 10 ∧ i ≠ 12 := by
  unfold isM at h
  simp only [Bool.or_eq_true, beq_iff_eq] at h
  omega

/-- an operation that leaves the world -/
theorem J59.pure (h : J59 L pb pc nV N a0 w0 bl l a w) (hsz : 318 ≤ a0.tmps.size) {i : Nat} (hi : i < 17) (hb : isB i = false) (hl' : ∀ j, l' j = if j = i then true else l j) (h14 : i = 14 → ∀ j, isM j = true → l j = true) (h16 : i = 16 → l 15 = true) : J59 L pb pc nV N a0 w0 bl l' (a.put (some (dd i)) (vv L pb pc nV N bl i)) w := by
  have hM : isM i = false := by unfold isB at hb; simp at hb; exact hb.1
  have h15 : i ≠ 15 := by intro e; subst e; cases hb
  have hd : dd i < a.tmps.size := by rw [h.sz]; unfold dd; split <;> omega
  have hk : ∀ j, j ≠ i → l' j = true → l j = true := fun j hj e => by rw [hl' j, if_neg hj] at e; exact e
  have hne : ∀ j, isM j = true → j ≠ i := fun j hj e => by rw [e, hM] at hj; cases hj
  have hneB : ∀ j, isB j = true → j ≠ i := fun j hj e => by rw [e, hb] at hj; cases hj
  refine ⟨h.kp, h.df, by show (a.tmps.setIfInBounds _ _).size = _; rw [Array.size_setIfInBounds]; exact h.sz, fun t ht => ?_, fun j hj hlj => ?_, fun j hj hlj => h.rw j hj (hk j (hne j hj) hlj), fun j k hjk h1 h2 h3 h4 => h.ne j k hjk h1 h2 (hk j (hneB j h1) h3) (hk k (hneB k h2) h4), fun e => h.bx (hk 15 (Ne.symm h15) e), fun e j hj => ?_, fun e => ?_, fun e => ?_⟩
  · rw [put_get a _ _ t hd, if_neg (ht i hi)]; exact h.ot t ht
  · rw [put_get a _ _ _ hd]
    by_cases e : j = i
    · subst e; rw [if_pos rfl]
    · rw [if_neg (dd_ne hj hi e)]; exact h.vl j hj (hk j e hlj)
  · rw [hl' j, if_neg (hne j hj)]
    by_cases e14 : i = 14
    · exact h14 e14 j hj
    · exact h.d14 (hk 14 (fun e => e14 e.symm) e) j hj
  · rw [hl' 14]
    split
    · rfl
    · exact h.d15 (hk 15 (Ne.symm h15) e)
  · rw [hl' 15, if_neg (Ne.symm h15)]
    by_cases e16 : i = 16
    · exact h16 e16
    · exact h.d16 (hk 16 (fun e => e16 e.symm) e)

/-- a make -/
theorem J59.make (h : J59 L pb pc nV N a0 w0 bl l a w) (hsz : 318 ≤ a0.tmps.size) {i : Nat} (hM : isM i = true) (hli : l i = false) (hl' : ∀ j, l' j = if j = i then true else l j) :
    J59 L pb pc nV N a0 w0 (up bl i w.heap.size) l' (a.put (some (dd i)) (.slice (some ⟨w.heap.size, 0, none⟩) (cM nV N i) (cM nV N i))) (w.alloc (.cells (madeCells #[zM i] (cM nV N i)) (tyM i))) := by
  obtain ⟨i14, _, _, _, _, _, _, _, _⟩ := isM_lt hM
  have hi : i < 17 := by omega
  have hd : dd i < a.tmps.size := by rw [h.sz]; unfold dd; split <;> omega
  have hk : ∀ j, j ≠ i → l' j = true → l j = true := fun j hj e => by rw [hl' j, if_neg hj] at e; exact e
  have n14 : l 14 = false := by
    cases e : l 14 with
    | false => rfl
    | true => have := h.d14 e i hM; rw [hli] at this; cases this
  have n15 : l 15 = false := by
    cases e : l 15 with
    | false => rfl
    | true => have := h.d15 e; rw [n14] at this; cases this
  have n16 : l 16 = false := by
    cases e : l 16 with
    | false => rfl
    | true => have := h.d16 e; rw [n15] at this; cases this
  have ka : Kp (fun _ => False) w (w.alloc (.cells (madeCells #[zM i] (cM nV N i)) (tyM i))) := (Kp.refl _ _).alloc _
  have hlt : ∀ j, isM j = true → l j = true → bl j < w.heap.size := fun j h1 h2 => (h.rw j h1 h2).1.lt
  have hvv : ∀ j, j < 17 → j ≠ i → l j = true → vv L pb pc nV N (up bl i w.heap.size) j = vv L pb pc nV N bl j := by
    intro j hj hji hlj
    have j14 : j ≠ 14 := fun e => by rw [e, n14] at hlj; cases hlj
    have j15 : j ≠ 15 := fun e => by rw [e, n15] at hlj; cases hlj
    have j16 : j ≠ 16 := fun e => by rw [e, n16] at hlj; cases hlj
    unfold vv
    rw [up_ne _ _ hji, if_neg j14, if_neg j14, up_ne _ _ (by omega)]
  refine ⟨h.kp.trans ka, h.df, by show (a.tmps.setIfInBounds _ _).size = _; rw [Array.size_setIfInBounds]; exact h.sz, fun t ht => ?_, fun j hj hlj => ?_, fun j hj hlj => ?_, fun j k hjk h1 h2 h3 h4 => ?_, fun e => ?_, fun e => ?_, fun e => ?_, fun e => ?_⟩
  · rw [put_get a _ _ t hd, if_neg (ht i hi)]; exact h.ot t ht
  · rw [put_get a _ _ _ hd]
    by_cases e : j = i
    · subst e
      rw [if_pos rfl]
      congr 1
      unfold vv
      rw [up_same, if_neg (by omega), if_neg (by omega), if_neg (by omega), if_neg (by omega), if_pos hM]
    · rw [if_neg (dd_ne hj hi e), hvv j hj e (hk j e hlj)]; exact h.vl j hj (hk j e hlj)
  · by_cases e : j = i
    · subst e
      rw [up_same]
      exact ⟨World.rowIs_made w (zM j) (cM nV N j) (tyM j), h.kp.size⟩
    · rw [up_ne _ _ e]
      obtain ⟨r1, r2⟩ := h.rw j hj (hk j e hlj)
      exact ⟨ka.rowIs r1 id, r2⟩
  · have hb : ∀ j, j ≠ i → isB j = true → l' j = true → isM j = true ∧ l j = true := by
      intro j hj h1 h3
      have h3 := hk j hj h3
      refine ⟨?_, h3⟩
      unfold isB at h1
      rw [Bool.or_eq_true] at h1
      rcases h1 with h1 | h1
      · exact h1
      · have : j = 15 := by simpa using h1
        rw [this, n15] at h3; cases h3
    by_cases e : j = i
    · subst e
      obtain ⟨k1, k2⟩ := hb k (Ne.symm hjk) h2 h4
      rw [up_same, up_ne _ _ (Ne.symm hjk)]
      have := hlt k k1 k2
      omega
    · obtain ⟨j1, j2⟩ := hb j e h1 h3
      rw [up_ne _ _ e]
      by_cases e2 : k = i
      · subst e2
        rw [up_same]
        have := hlt j j1 j2
        omega
      · obtain ⟨k1, k2⟩ := hb k e2 h2 h4
        rw [up_ne _ _ e2]
        exact h.ne j k hjk h1 h2 j2 k2
  · have := hk 15 (by omega) e; rw [n15] at this; cases this
  · have := hk 14 (by omega) e; rw [n14] at this; cases this
  · have := hk 15 (by omega) e; rw [n15] at this; cases this
  · have := hk 16 (by omega) e; rw [n16] at this; cases this

/-- the box -/
theorem J59.box (h : J59 L pb pc nV N a0 w0 bl l a w) (hsz : 318 ≤ a0.tmps.size) (hl15 : l 15 = false) (hl14 : l 14 = true) (hl' : ∀ j, l' j = if j = 15 then true else l j) :
    J59 L pb pc nV N a0 w0 (up bl 15 w.heap.size) l' (a.put (some (dd 15)) (.pointer (some ⟨w.heap.size, 0, none⟩))) (w.alloc (.cells (g59 L pb pc nV N bl) 36)) := by
  have hd : dd 15 < a.tmps.size := by rw [h.sz]; show 317 < _; omega
  have hk : ∀ j, j ≠ 15 → l' j = true → l j = true := fun j hj e => by rw [hl' j, if_neg hj] at e; exact e
  have n16 : l 16 = false := by
    cases e : l 16 with
    | false => rfl
    | true => have := h.d16 e; rw [hl15] at this; cases this
  have ka : Kp (fun _ => False) w (w.alloc (.cells (g59 L pb pc nV N bl) 36)) := (Kp.refl _ _).alloc _
  have hlt : ∀ j, isM j = true → l j = true → bl j < w.heap.size := fun j h1 h2 => (h.rw j h1 h2).1.lt
  have hM15 : ∀ j, isM j = true → j ≠ 15 := fun j hj => by have := (isM_lt hj).1; omega
  have hg : g59 L pb pc nV N (up bl 15 w.heap.size) = g59 L pb pc nV N bl := by unfold g59; rw [up_ne _ _ (by omega), up_ne _ _ (by omega), up_ne _ _ (by omega), up_ne _ _ (by omega), up_ne _ _ (by omega), up_ne _ _ (by omega)]
  have hvv : ∀ j, j < 17 → j ≠ 15 → l j = true → vv L pb pc nV N (up bl 15 w.heap.size) j = vv L pb pc nV N bl j := by
    intro j hj hji hlj
    have j16 : j ≠ 16 := fun e => by rw [e, n16] at hlj; cases hlj
    rcases (by omega : j = 0 ∨ j = 1 ∨ j = 2 ∨ j = 3 ∨ j = 4 ∨ j = 5 ∨ j = 6 ∨ j = 7 ∨ j = 8 ∨ j = 9 ∨ j = 10 ∨ j = 11 ∨ j = 12 ∨ j = 13 ∨ j = 14) with e | e | e | e | e | e | e | e | e | e | e | e | e | e | e <;> subst e <;> rfl
  refine ⟨h.kp.trans ka, h.df, by show (a.tmps.setIfInBounds _ _).size = _; rw [Array.size_setIfInBounds]; exact h.sz, fun t ht => ?_, fun j hj hlj => ?_, fun j hj hlj => ?_, fun j k hjk h1 h2 h3 h4 => ?_, fun e => ?_, fun e j hj => ?_, fun e => ?_, fun e => ?_⟩
  · rw [put_get a _ _ t hd, if_neg (ht 15 (by omega))]; exact h.ot t ht
  · rw [put_get a _ _ _ hd]
    by_cases e : j = 15
    · subst e
      rw [if_pos rfl]
      rfl
    · rw [if_neg (dd_ne hj (by omega) e), hvv j hj e (hk j e hlj)]; exact h.vl j hj (hk j e hlj)
  · rw [up_ne _ _ (hM15 j hj)]
    obtain ⟨r1, r2⟩ := h.rw j hj (hk j (hM15 j hj) hlj)
    exact ⟨ka.rowIs r1 id, r2⟩
  · have hb : ∀ j, j ≠ 15 → isB j = true → isM j = true := by
      intro j hj h1
      unfold isB at h1
      rw [Bool.or_eq_true] at h1
      rcases h1 with h1 | h1
      · exact h1
      · exact absurd (by simpa using h1) hj
    by_cases e : j = 15
    · subst e
      rw [up_same, up_ne _ _ (Ne.symm hjk)]
      have := hlt k (hb k (Ne.symm hjk) h2) (hk k (Ne.symm hjk) h4)
      omega
    · rw [up_ne _ _ e]
      by_cases e2 : k = 15
      · subst e2
        rw [up_same]
        have := hlt j (hb j e h1) (hk j e h3)
        omega
      · rw [up_ne _ _ e2]
        exact h.ne j k hjk h1 h2 (hk j e h3) (hk k e2 h4)
  · rw [up_same, hg]
    exact ⟨heap_new w _ 36, h.kp.size⟩
  · rw [hl' j, if_neg (hM15 j hj)]; exact h.d14 (hk 14 (by omega) e) j hj
  · rw [hl' 14, if_neg (by omega)]; exact hl14
  · rw [hl' 15, if_pos rfl]
end

/-! ### the region -/
def need (i : Nat) : List Nat :=
  if i = 3 then [2] else if i = 5 then [4] else if i = 7 then [6] else if i = 9 then [8] else if i = 11 then [10] else if i = 13 then [12] else if i = 14 then [0, 1, 3, 5, 7, 9, 11, 13] else if i = 15 then [14] else if i = 16 then [15] else []
def spec59 : List (Option Tmp × Op) :=
  [(some 302, .move (.tmp 13)), (some 303, .move (.tmp 15)), (some 304, .move (.tmp 32)), (some 305, .makeSlice 31 (.tmp 304) (.tmp 304)), (some 306, .move (.tmp 9)), (some 307, .makeSlice 32 (.tmp 306) (.tmp 306)), (some 308, .move (.tmp 9)), (some 309, .makeSlice 33 (.tmp 308) (.tmp 308)), (some 310, .move (.tmp 32)), (some 311, .makeSlice 28 (.tmp 310) (.tmp 310)),
   (some 312, .move (.tmp 9)), (some 313, .makeSlice 33 (.tmp 312) (.tmp 312)), (some 314, .move (.tmp 9)), (some 315, .makeSlice 28 (.tmp 314) (.tmp 314)), (some 316, .build 36 #[(0, .tmp 302), (1, .tmp 303), (2, .tmp 305), (3, .tmp 307), (4, .tmp 309), (6, .tmp 311), (9, .tmp 313), (10, .tmp 315)]), (some 317, .box 36 (.tmp 316)), (some 33, .assign (.tmp 317))]
def chain (L pb pc nV N : Nat) (bl : Nat → Nat) (a0 : Act) : Act := (List.range 17).foldl (fun a i => a.put (some (dd i)) (vv L pb pc nV N bl i)) a0

theorem foldl_put (L pb pc nV N : Nat) (bl : Nat → Nat) (a0 : Act) (hsz : 318 ≤ a0.tmps.size) : ∀ n, n ≤ 17 →
    ((List.range n).foldl (fun a i => a.put (some (dd i)) (vv L pb pc nV N bl i)) a0).tmps.size = a0.tmps.size ∧ ((List.range n).foldl (fun a i => a.put (some (dd i)) (vv L pb pc nV N bl i)) a0).defers = a0.defers ∧
    (∀ t, (∀ i, i < n → t ≠ dd i) → ((List.range n).foldl (fun a i => a.put (some (dd i)) (vv L pb pc nV N bl i)) a0).tmps[t]? = a0.tmps[t]?) ∧ ∀ i, i < n → ((List.range n).foldl (fun a i => a.put (some (dd i)) (vv L pb pc nV N bl i)) a0).tmps[dd i]? = some (vv L pb pc nV N bl i) := by
  intro n
  induction n with
  | zero => intro _; exact ⟨rfl, rfl, fun _ _ => rfl, fun i h => by omega⟩
  | succ n ih =>
    intro hn
    obtain ⟨h1, h2, h3, h4⟩ := ih (by omega)
    rw [List.range_succ, List.foldl_append]
    simp only [List.foldl_cons, List.foldl_nil]
    have hd : dd n < ((List.range n).foldl (fun a i => a.put (some (dd i)) (vv L pb pc nV N bl i)) a0).tmps.size := by rw [h1]; unfold dd; split <;> omega
    refine ⟨?_, h2, fun t ht => ?_, fun i hi => ?_⟩
    · show (Array.setIfInBounds _ _ _).size = _
      rw [Array.size_setIfInBounds]; exact h1
    · rw [put_get _ _ _ t hd, if_neg (ht n (by omega))]; exact h3 t (fun i hi => ht i (by omega))
    · rw [put_get _ _ _ _ hd]
      by_cases e : i = n
      · subst e; rw [if_pos rfl]
      · rw [if_neg (dd_ne (by omega) (by omega) e)]; exact h4 i (by omega)

theorem J59.eq {L pb pc nV N : Nat} {a0 : Act} {w0 : World} {bl : Nat → Nat} {l : Nat → Bool} {a : Act} {w : World} (h : J59 L pb pc nV N a0 w0 bl l a w) (hsz : 318 ≤ a0.tmps.size) (hl : ∀ i, i < 17 → l i = true) : a = chain L pb pc nV N bl a0 := by
  obtain ⟨h1, h2, h3, h4⟩ := foldl_put L pb pc nV N bl a0 hsz 17 (Nat.le_refl _)
  have ht : a.tmps = (chain L pb pc nV N bl a0).tmps := by
    apply Array.ext_getElem?
    intro t
    by_cases e : ∃ i, i < 17 ∧ t = dd i
    · obtain ⟨i, hi, rfl⟩ := e
      rw [h.vl i hi (hl i hi)]
      exact (h4 i hi).symm
    · have e' : ∀ i, i < 17 → t ≠ dd i := fun i hi e2 => e ⟨i, hi, e2⟩
      rw [h.ot t e']
      exact (h3 t e').symm
  have hdf : a.defers = (chain L pb pc nV N bl a0).defers := h.df.trans h2.symm
  cases a
  cases hc : chain L pb pc nV N bl a0
  rw [hc] at ht hdf
  dsimp only at ht hdf
  rw [ht, hdf]

theorem eval_of {a : Act} {t : Nat} {v : Value} (h : a.tmps[t]? = some v) : a.eval (.tmp t) = v := by
  show a.tmps.getD t undef = v
  rw [Array.getD_eq_getD_getElem?, h]; rfl

theorem region59 {ops : Array Oper} {Q : Exit → Act → World → Prop} {a0 : Act} {w0 : World} (L pb pc nV N : Nat) (hsz : 318 ≤ a0.tmps.size) (hops : ops.toList.map (fun o => (o.dst, o.op)) = spec59) (hgd : ops.toList.all (fun o => o.guard.isNone) = true)
    (hdep : (List.range 17).all (fun i => (need i).all (fun j => (ops[i]?).any (fun o => o.after.any (fun e => Region.binds .any e && e.on == j)))) = true) (hfst : (List.range 17).all (fun i => (ops[i]?).any (fun o => o.after.all (fun e => !Region.binds .any e || decide (e.on < i)))) = true)
    (hnV : nV ≤ 100) (hN : N ≤ 100) (e13 : a0.tmps[13]? = some (.pointer (some ⟨L, 0, none⟩))) (e15 : a0.tmps[15]? = some (.slice (some ⟨pb, 0, none⟩) nV pc)) (e32 : a0.tmps[32]? = some (.int .i64 (nV : Int))) (e9 : a0.tmps[9]? = some (.int .i64 (N : Int)))
    (hK : ∀ bl w, J59 L pb pc nV N a0 w0 bl (fun _ => true) (chain L pb pc nV N bl a0) w → Q .normal (chain L pb pc nV N bl a0) w) : wpAny Yba.prog .any ops Q 17 (Array.replicate 17 false) a0 w0 := by
  have hsz17 : ops.size = 17 := by
    have := congrArg List.length hops
    rw [List.length_map, Array.length_toList] at this
    exact this
  have hspec : ∀ (i : Nat) (o : Oper), ops[i]? = some o → spec59[i]? = some (o.dst, o.op) ∧ o.guard = none := by
    intro i o h
    have h1 : ops.toList[i]? = some o := by simpa using h
    refine ⟨?_, ?_⟩
    · rw [← hops, List.getElem?_map, h1]; rfl
    · rw [List.all_eq_true] at hgd
      have := hgd o (List.mem_of_getElem? h1)
      simpa using this
  have hfirst : ∀ (i : Nat) (o : Oper), ops[i]? = some o → ∀ e ∈ o.after, Region.binds .any e = true → e.on < i := by
    intro i o h e he hb
    have hi : i < 17 := by
      rcases Nat.lt_or_ge i ops.size with h2 | h2
      · omega
      · rw [Array.getElem?_eq_none h2] at h; cases h
    rw [List.all_eq_true] at hfst
    have h1 := hfst i (List.mem_range.2 hi)
    rw [h] at h1
    have h2 : o.after.all (fun e => !Region.binds .any e || decide (e.on < i)) = true := h1
    rw [Array.all_eq_true'] at h2
    have h3 := h2 e he
    rw [hb] at h3
    simpa using h3
  have hneed : ∀ (i : Nat) (o : Oper) (j : Nat), ops[i]? = some o → j ∈ need i → ∃ e ∈ o.after, Region.binds .any e = true ∧ e.on = j := by
    intro i o j h hj
    have hi : i < 17 := by
      rcases Nat.lt_or_ge i ops.size with h2 | h2
      · omega
      · rw [Array.getElem?_eq_none h2] at h; cases h
    rw [List.all_eq_true] at hdep
    have h1 := hdep i (List.mem_range.2 hi)
    rw [List.all_eq_true] at h1
    have h2 := h1 j hj
    rw [h] at h2
    have h3 : o.after.any (fun e => Region.binds .any e && e.on == j) = true := h2
    obtain ⟨e, he, hb⟩ := Array.any_eq_true'.1 h3
    simp only [Bool.and_eq_true, beq_iff_eq] at hb
    exact ⟨e, he, hb.1, hb.2⟩
  refine wpAny_inv (I := fun l a w => ∃ bl, J59 L pb pc nV N a0 w0 bl l a w) hfirst ?_ ?_ 17 (Array.replicate 17 false) a0 w0 (by simp [hsz17]) ?_ ?_
  · rintro l a w ⟨bl, h⟩ hl
    have hl' : ∀ i, i < 17 → l i = true := fun i hi => hl i (by omega)
    have he := h.eq hsz hl'
    subst he
    refine hK bl w ⟨h.kp, h.df, h.sz, h.ot, fun i hi _ => h.vl i hi (hl' i hi), fun i hi _ => h.rw i hi (hl' i (by have := (isM_lt hi).1; omega)), fun i j hij h1 h2 _ _ => h.ne i j hij h1 h2 (hl' i ?_) (hl' j ?_), fun _ => h.bx (hl' 15 (by omega)), fun _ _ _ => rfl, fun _ => rfl, fun _ => rfl⟩
    · unfold isB at h1; rw [Bool.or_eq_true] at h1
      rcases h1 with h1 | h1
      · have := (isM_lt h1).1; omega
      · have : i = 15 := by simpa using h1
        omega
    · unfold isB at h2; rw [Bool.or_eq_true] at h2
      rcases h2 with h2 | h2
      · have := (isM_lt h2).1; omega
      · have : j = 15 := by simpa using h2
        omega
  · rintro l a w i o ⟨bl, h⟩ ho hli hd
    obtain ⟨hs, hg⟩ := hspec i o ho
    have hi : i < 17 := by
      rcases Nat.lt_or_ge i ops.size with h2 | h2
      · omega
      · rw [Array.getElem?_eq_none h2] at ho; cases ho
    have dep : ∀ j, j ∈ need i → l j = true := by
      intro j hj
      obtain ⟨e, he, hb, hon⟩ := hneed i o j ho hj
      rw [← hon]; exact hd e he hb
    have ev : ∀ j, j < 17 → l j = true → a.eval (.tmp (dd j)) = vv L pb pc nV N bl j := fun j hj hl => eval_of (h.vl j hj hl)
    have ev0 : ∀ t v, (∀ i, i < 17 → t ≠ dd i) → a0.tmps[t]? = some v → a.eval (.tmp t) = v := fun t v ht hv => eval_of ((h.ot t ht).trans hv)
    have hnd : ∀ t, t < 302 → t ≠ 33 → ∀ i, i < 17 → t ≠ dd i := by intro t h1 h2 i hi; unfold dd; split <;> omega
    have mv : ∀ x, isB i = false → i ≠ 14 → i ≠ 16 → o.dst = some (dd i) → o.op = .move (.tmp x) → a.eval (.tmp x) = vv L pb pc nV N bl i → wpOp Yba.prog ops Q i (fun a' w' => ∀ l', (∀ j, l' j = if j = i then true else l j) → ∃ bl, J59 L pb pc nV N a0 w0 bl l' a' w') a w := by
      intro x hb h14 h16 hds hop he
      refine wpOp_run ho hg (BigFrame.run_move (.tmp x) hop w) ?_
      intro l' hl'
      rw [hds, he]
      exact ⟨bl, h.pure hsz hi hb hl' (fun e => absurd e h14) (fun e => absurd e h16)⟩
    have mk : ∀ (t x : Nat), isM i = true → o.dst = some (dd i) → o.op = .makeSlice t (.tmp x) (.tmp x) → a.eval (.tmp x) = .int .i64 (cM nV N i : Int) → (Instr.makeSlice t (.int .i64 (cM nV N i : Int)) (.int .i64 (cM nV N i : Int))).run Yba.prog w = .ok (.slice (some ⟨w.heap.size, 0, none⟩) (cM nV N i) (cM nV N i)) (w.alloc (.cells (madeCells #[zM i] (cM nV N i)) (tyM i))) → wpOp Yba.prog ops Q i (fun a' w' => ∀ l', (∀ j, l' j = if j = i then true else l j) → ∃ bl, J59 L pb pc nV N a0 w0 bl l' a' w') a w := by
      intro t x hM hds hop he hr
      refine wpOp_run ho hg (run_mk t (.tmp x) hop (by rw [he]; exact hr)) ?_
      intro l' hl'
      rw [hds]
      exact ⟨_, h.make hsz hM hli hl'⟩
    have sp : ∀ d op, spec59[i]? = some (d, op) → o.dst = d ∧ o.op = op := by
      intro d op e
      rw [hs] at e
      injection e with e
      injection e with e1 e2
      exact ⟨e1, e2⟩
    rcases (by omega : i = 0 ∨ i = 1 ∨ i = 2 ∨ i = 3 ∨ i = 4 ∨ i = 5 ∨ i = 6 ∨ i = 7 ∨ i = 8 ∨ i = 9 ∨ i = 10 ∨ i = 11 ∨ i = 12 ∨ i = 13 ∨ i = 14 ∨ i = 15 ∨ i = 16) with e | e | e | e | e | e | e | e | e | e | e | e | e | e | e | e | e <;> subst e
    · obtain ⟨s1, s2⟩ := sp _ _ rfl
      exact mv 13 rfl (by omega) (by omega) s1 s2 (ev0 13 _ (hnd 13 (by omega) (by omega)) e13)
    · obtain ⟨s1, s2⟩ := sp _ _ rfl
      exact mv 15 rfl (by omega) (by omega) s1 s2 (ev0 15 _ (hnd 15 (by omega) (by omega)) e15)
    · obtain ⟨s1, s2⟩ := sp _ _ rfl
      exact mv 32 rfl (by omega) (by omega) s1 s2 (ev0 32 _ (hnd 32 (by omega) (by omega)) e32)
    · obtain ⟨s1, s2⟩ := sp _ _ rfl
      exact mk 31 304 rfl s1 s2 (ev 2 (by omega) (dep 2 (by simp [need]))) (run_make_row' (P := Yba.prog) 31 133 (.slice none 0 0) 24 Yba.underlying31 info133 rfl .i64 .i64 nV (by omega) (by omega) w)
    · obtain ⟨s1, s2⟩ := sp _ _ rfl
      exact mv 9 rfl (by omega) (by omega) s1 s2 (ev0 9 _ (hnd 9 (by omega) (by omega)) e9)
    · obtain ⟨s1, s2⟩ := sp _ _ rfl
      exact mk 32 306 rfl s1 s2 (ev 4 (by omega) (dep 4 (by simp [need]))) (run_make_row' (P := Yba.prog) 32 33 (.slice none 0 0) 24 Yba.underlying32 info33 rfl .i64 .i64 N (by omega) (by omega) w)
    · obtain ⟨s1, s2⟩ := sp _ _ rfl
      exact mv 9 rfl (by omega) (by omega) s1 s2 (ev0 9 _ (hnd 9 (by omega) (by omega)) e9)
    · obtain ⟨s1, s2⟩ := sp _ _ rfl
      exact mk 33 308 rfl s1 s2 (ev 6 (by omega) (dep 6 (by simp [need]))) (run_make_row' (P := Yba.prog) 33 48 (.int .i32 0) 4 Yba.underlying33 info48 rfl .i64 .i64 N (by omega) (by omega) w)
    · obtain ⟨s1, s2⟩ := sp _ _ rfl
      exact mv 32 rfl (by omega) (by omega) s1 s2 (ev0 32 _ (hnd 32 (by omega) (by omega)) e32)
    · obtain ⟨s1, s2⟩ := sp _ _ rfl
      exact mk 28 310 rfl s1 s2 (ev 8 (by omega) (dep 8 (by simp [need]))) (run_make_row' (P := Yba.prog) 28 3 (.int .i64 0) 8 Yba.underlying28 info3 rfl .i64 .i64 nV (by omega) (by omega) w)
    · obtain ⟨s1, s2⟩ := sp _ _ rfl
      exact mv 9 rfl (by omega) (by omega) s1 s2 (ev0 9 _ (hnd 9 (by omega) (by omega)) e9)
    · obtain ⟨s1, s2⟩ := sp _ _ rfl
      exact mk 33 312 rfl s1 s2 (ev 10 (by omega) (dep 10 (by simp [need]))) (run_make_row' (P := Yba.prog) 33 48 (.int .i32 0) 4 Yba.underlying33 info48 rfl .i64 .i64 N (by omega) (by omega) w)
    · obtain ⟨s1, s2⟩ := sp _ _ rfl
      exact mv 9 rfl (by omega) (by omega) s1 s2 (ev0 9 _ (hnd 9 (by omega) (by omega)) e9)
    · obtain ⟨s1, s2⟩ := sp _ _ rfl
      exact mk 28 314 rfl s1 s2 (ev 12 (by omega) (dep 12 (by simp [need]))) (run_make_row' (P := Yba.prog) 28 3 (.int .i64 0) 8 Yba.underlying28 info3 rfl .i64 .i64 N (by omega) (by omega) w)
    · obtain ⟨s1, s2⟩ := sp _ _ rfl
      refine wpOp_run ho hg (run_bld s2 w L pb pc nV (bl 3) (bl 5) (bl 7) (bl 9) (bl 11) (bl 13) N (ev 0 (by omega) (dep 0 (by simp [need]))) (ev 1 (by omega) (dep 1 (by simp [need]))) (ev 3 (by omega) (dep 3 (by simp [need]))) (ev 5 (by omega) (dep 5 (by simp [need]))) (ev 7 (by omega) (dep 7 (by simp [need]))) (ev 9 (by omega) (dep 9 (by simp [need]))) (ev 11 (by omega) (dep 11 (by simp [need]))) (ev 13 (by omega) (dep 13 (by simp [need])))) ?_
      intro l' hl'
      rw [s1]
      refine ⟨bl, h.pure hsz (i := 14) (by omega) rfl hl' (fun _ j hj => dep j ?_) (fun e => by omega)⟩
      unfold isM at hj
      simp only [Bool.or_eq_true, beq_iff_eq] at hj
      simp only [need]
      simp
      omega
    · obtain ⟨s1, s2⟩ := sp _ _ rfl
      refine wpOp_run ho hg (run_bx s2 w L pb pc nV (bl 3) (bl 5) (bl 7) (bl 9) (bl 11) (bl 13) N (ev 14 (by omega) (dep 14 (by simp [need])))) ?_
      intro l' hl'
      rw [s1]
      exact ⟨_, h.box hsz hli (dep 14 (by simp [need])) hl'⟩
    · obtain ⟨s1, s2⟩ := sp _ _ rfl
      refine wpOp_run ho hg (BigFrame.run_assign (.tmp 317) s2 w) ?_
      intro l' hl'
      rw [s1, show a.eval (.tmp 317) = vv L pb pc nV N bl 16 from ev 15 (by omega) (dep 15 (by simp [need]))]
      exact ⟨bl, h.pure hsz (i := 16) (by omega) rfl hl' (fun e => by omega) (fun _ => dep 15 (by simp [need]))⟩
  · rw [hsz17]
    unfold unlisted
    refine Nat.le_trans (List.length_filter_le _ _) ?_
    rw [List.length_range]
    exact Nat.le_refl _
  · have hf : ∀ i, i < 17 → (Array.replicate 17 false).getD i true = false := by
      intro i hi
      simp [Array.getD, hi]
    refine ⟨fun _ => 0, Kp.refl _ _, rfl, rfl, fun _ _ => rfl, fun i hi hl => ?_, fun i hi hl => ?_, fun i j hij h1 h2 h3 h4 => ?_, fun e => ?_, fun e => ?_, fun e => ?_, fun e => ?_⟩
    · rw [hf i hi] at hl; cases hl
    · rw [hf i (by have := (isM_lt hi).1; omega)] at hl; cases hl
    · have : i < 17 := by
        unfold isB at h1; rw [Bool.or_eq_true] at h1
        rcases h1 with h1 | h1
        · have := (isM_lt h1).1; omega
        · have : i = 15 := by simpa using h1
          omega
      rw [hf i this] at h3; cases h3
    · rw [hf 15 (by omega)] at e; cases e
    · rw [hf 14 (by omega)] at e; cases e
    · rw [hf 15 (by omega)] at e; cases e
    · rw [hf 16 (by omega)] at e; cases e
end Go.Proofs.Ybulkctjg
