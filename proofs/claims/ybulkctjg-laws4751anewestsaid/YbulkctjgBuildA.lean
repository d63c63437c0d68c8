import Derived.Test.YbulkctjgNewest
import Derived.Maps.OwnSet
namespace Go.Proofs.Ybulkctjg
open Go.RowKit
set_option linter.unusedVariables false

def up {α : Type} (f : Nat → α) (i : Nat) (v : α) : Nat → α := fun j => if j = i then v else f j
theorem up_same {α : Type} (f : Nat → α) (i : Nat) (v : α) : up f i v i = v := by unfold up; rw [if_pos rfl]
theorem up_ne {α : Type} (f : Nat → α) {i j : Nat} (v : α) (h : j ≠ i) : up f i v j = f j := by unfold up; rw [if_neg h]

/-! ### the slices that build grows, by number: 0 the values, 1 the positions, 2 a run's inputs, 3+n the revisions of n, 8+n the runs of n, 13 the names, 20+v the inputs of v -/
def tyS (i : Nat) : Nat := if i = 0 then 99 else if i = 1 then 3 else if i = 13 then 9 else 48
def szS (i : Nat) : Nat := if i = 0 then 5 else 1
theorem tyS_else {i : Nat} (h0 : i ≠ 0) (h1 : i ≠ 1) (h2 : i ≠ 13) : tyS i = 48 := by unfold tyS; rw [if_neg h0, if_neg h1, if_neg h2]
theorem szS_else {i : Nat} (h0 : i ≠ 0) : szS i = 1 := by unfold szS; rw [if_neg h0]

theorem Kp.owns {M : Nat → Prop} {u v : World} (k : Kp M u v) {b t s n : Nat} {x : Value} {xs : List Value} (h : u.ownsRow b t s x n xs) (hx : ∀ i, x.ownBlock = some i → ¬ M i) : v.ownsRow b t s x n xs := by
  obtain ⟨h0, h1⟩ := h
  refine ⟨h0, ?_⟩
  rcases h1 with h1 | ⟨g, cap, cur, h1, h2, h3, h4⟩
  · exact .inl h1
  · refine .inr ⟨g, cap, cur, h1, h2, ?_, h4⟩
    exact (k.block g (Array.getElem?_eq_some_iff.1 h3).1 (hx g (by rw [h1]; rfl))).trans h3

structure Sl (B0 : Nat) (w : World) (fz : Nat → Prop) (ow : Nat → Value) (ct : Nat → Nat) (vs : Nat → List Value) : Prop where
  own : ∀ i, w.ownsRow 0 (tyS i) (szS i) (ow i) (ct i) (vs i)
  ne : ∀ i j k, i ≠ j → (ow i).ownBlock = some k → (ow j).ownBlock ≠ some k
  nf : ∀ i k, (ow i).ownBlock = some k → ¬ fz k ∧ B0 ≤ k
  fl : ∀ k, fz k → k < w.heap.size ∧ B0 ≤ k

section
variable {B0 : Nat} {w w' : World} {fz fz' : Nat → Prop} {ow : Nat → Value} {ct : Nat → Nat} {vs : Nat → List Value}
theorem Sl.lt (h : Sl B0 w fz ow ct vs) (i k : Nat) (e : (ow i).ownBlock = some k) : k < w.heap.size := (World.ownsRow.lt (h.own i) k e).2
theorem Sl.kp (h : Sl B0 w fz ow ct vs) (k : Kp fz w w') : Sl B0 w' fz ow ct vs :=
  ⟨fun i => k.owns (h.own i) (fun j e => (h.nf i j e).1), h.ne, h.nf, fun j e => ⟨Nat.lt_of_lt_of_le (h.fl j e).1 k.size, (h.fl j e).2⟩⟩
theorem Sl.more (h : Sl B0 w fz ow ct vs) (k : Kp (fun _ => False) w w') (hb : B0 ≤ w.heap.size) (hf : ∀ k, fz' k → fz k ∨ (w.heap.size ≤ k ∧ k < w'.heap.size)) : Sl B0 w' fz' ow ct vs := by
  refine ⟨fun i => k.owns (h.own i) (fun _ _ => id), h.ne, fun i j e => ⟨fun e2 => ?_, (h.nf i j e).2⟩, fun j e => ?_⟩
  · rcases hf j e2 with h1 | h1
    · exact (h.nf i j e).1 h1
    · have := h.lt i j e; omega
  · rcases hf j e with h1 | h1
    · exact ⟨Nat.lt_of_lt_of_le (h.fl j h1).1 k.size, (h.fl j h1).2⟩
    · exact ⟨h1.2, by omega⟩
theorem Sl.app (h : Sl B0 w fz ow ct vs) (i : Nat) {g cap n' : Nat} {xs' : List Value} (hown : w'.ownsRow 0 (tyS i) (szS i) (.slice (some ⟨g, 0, none⟩) n' cap) n' xs') (k : Kp (fun k => (ow i).ownBlock = some k) w w') (hat : (ow i).ownBlock = some g ∨ w.heap.size ≤ g) (hb : B0 ≤ w.heap.size) :
    Sl B0 w' fz (up ow i (.slice (some ⟨g, 0, none⟩) n' cap)) (up ct i n') (up vs i xs') := by
  have hg : ∀ j, j ≠ i → (ow j).ownBlock ≠ some g := by
    intro j hj e
    rcases hat with h1 | h1
    · exact h.ne i j g (fun e => hj e.symm) h1 e
    · have := h.lt j g e; omega
  refine ⟨fun j => ?_, fun j j' k' hjj e => ?_, fun j k' e => ?_, fun j e => ⟨Nat.lt_of_lt_of_le (h.fl j e).1 k.size, (h.fl j e).2⟩⟩
  · by_cases e : j = i
    · subst e; rw [up_same, up_same, up_same]; exact hown
    · rw [up_ne _ _ e, up_ne _ _ e, up_ne _ _ e]
      exact k.owns (h.own j) (fun l hl e2 => h.ne j i l e hl e2)
  · by_cases e1 : j = i
    · subst e1
      rw [up_same] at e
      rw [up_ne _ _ (fun e => hjj e.symm)]
      have : g = k' := by simpa [Value.ownBlock] using e
      rw [← this]
      exact hg j' (fun e => hjj e.symm)
    · rw [up_ne _ _ e1] at e
      by_cases e2 : j' = i
      · subst e2
        rw [up_same]
        intro e3
        have : g = k' := by simpa [Value.ownBlock] using e3
        rw [← this] at e
        exact hg j e1 e
      · rw [up_ne _ _ e2]; exact h.ne j j' k' hjj e
  · by_cases e1 : j = i
    · subst e1
      rw [up_same] at e
      have : g = k' := by simpa [Value.ownBlock] using e
      rw [← this]
      rcases hat with h1 | h1
      · exact h.nf j g h1
      · exact ⟨fun e2 => by have := (h.fl g e2).1; omega, by omega⟩
    · rw [up_ne _ _ e1] at e; exact h.nf j k' e
theorem Sl.move (h : Sl B0 w fz ow ct vs) (i j : Nat) (hij : i ≠ j) (ht : tyS i = tyS j) (hs : szS i = szS j) : Sl B0 w fz (up (up ow j (ow i)) i (.slice none 0 0)) (up (up ct j (ct i)) i 0) (up (up vs j (vs i)) i []) := by
  have key : ∀ l, (up (up ow j (ow i)) i (.slice none 0 0)) l = .slice none 0 0 ∨ (l = j ∧ (up (up ow j (ow i)) i (.slice none 0 0)) l = ow i) ∨ (l ≠ i ∧ l ≠ j ∧ (up (up ow j (ow i)) i (.slice none 0 0)) l = ow l) := by
    intro l
    by_cases e : l = i
    · subst e; left; rw [up_same]
    · by_cases e2 : l = j
      · subst e2; right; left; exact ⟨rfl, by rw [up_ne _ _ e, up_same]⟩
      · right; right; exact ⟨e, e2, by rw [up_ne _ _ e, up_ne _ _ e2]⟩
  refine ⟨fun l => ?_, fun l l' k' hll e => ?_, fun l k' e => ?_, h.fl⟩
  · by_cases e : l = i
    · subst e; rw [up_same, up_same, up_same]; exact World.ownsRow_nil w 0 _ _
    · by_cases e2 : l = j
      · subst e2; rw [up_ne _ _ e, up_ne _ _ e, up_ne _ _ e, up_same, up_same, up_same, ← ht, ← hs]; exact h.own i
      · rw [up_ne _ _ e, up_ne _ _ e, up_ne _ _ e, up_ne _ _ e2, up_ne _ _ e2, up_ne _ _ e2]; exact h.own l
  · rcases key l with h1 | ⟨h0, h1⟩ | ⟨h0, h0', h1⟩
    · rw [h1] at e; cases e
    · rw [h1] at e
      rcases key l' with h2 | ⟨h3, h2⟩ | ⟨h3, h3', h2⟩
      · rw [h2]; intro e; cases e
      · exact absurd (h0.trans h3.symm) hll
      · rw [h2]; exact h.ne i l' k' (fun e => h3 e.symm) e
    · rw [h1] at e
      rcases key l' with h2 | ⟨h3, h2⟩ | ⟨h3, h3', h2⟩
      · rw [h2]; intro e; cases e
      · rw [h2]; exact h.ne l i k' h0 e
      · rw [h2]; exact h.ne l l' k' hll e
  · rcases key l with h1 | ⟨h0, h1⟩ | ⟨h0, h0', h1⟩
    · rw [h1] at e; cases e
    · rw [h1] at e; exact h.nf i k' e
    · rw [h1] at e; exact h.nf l k' e
end

/-! ### the blocks of a graph in the making -/
structure X where
  L : Nat
  mB : Nat
  rB : Nat
  uB : Nat
  mp : Nat
  fz : Nat → Prop
  ow : Nat → Value
  ct : Nat → Nat
  vs : Nat → List Value
  rd : Nat → Bool
  rp : Nat → Nat
  ctr : Nat → Nat
  pas : Nat → Bool

def lC (nM : Nat) (x : X) : Array Value :=
  #[x.ow 13, .slice (some ⟨x.mB, 0, none⟩) (nM + 2) (nM + 2), .map (some x.mp), x.ow 0, .slice (some ⟨x.rB, 0, none⟩) (nM + 2) (nM + 2), .slice (some ⟨x.uB, 0, none⟩) (nM + 2) (nM + 2), .slice none 0 0, .int .i64 0, .map none]

structure BP (B0 nM : Nat) (nm : Nat → ByteArray) (x : X) (w : World) : Prop where
  b0 : B0 ≤ w.heap.size
  sl : Sl B0 w x.fz x.ow x.ct x.vs
  hL : w.heap[x.L]? = some (.cells (lC nM x) 42 (0, 0))
  mat : w.rowIs x.mB 4 (nM + 2) (fun n => .bool (decide (n < nM)))
  rv : w.rowIs x.rB 33 (nM + 2) (fun n => x.ow (3 + n))
  uv : w.rowIs x.uB 33 (nM + 2) (fun n => x.ow (8 + n))
  map : MapIs w x.mp nm (nM + 2)
  f : x.fz x.L ∧ x.fz x.mB ∧ x.fz x.rB ∧ x.fz x.uB ∧ x.fz x.mp
  ne : x.L ≠ x.mB ∧ x.L ≠ x.rB ∧ x.L ≠ x.uB ∧ x.L ≠ x.mp ∧ x.mB ≠ x.rB ∧ x.mB ≠ x.uB ∧ x.rB ≠ x.uB ∧ x.mp ≠ x.rB ∧ x.mp ≠ x.uB
  rp : ∀ v, x.rd v = true → w.cell? ⟨x.rp v, 1, none⟩ = some (.int .i64 ((x.ctr v : Nat) : Int)) ∧ w.cell? ⟨x.rp v, 3, none⟩ = some (.string (if x.pas v then strPassed else strFailed)) ∧ x.fz (x.rp v) ∧ x.rp v ≠ x.L ∧ x.rp v ≠ x.rB ∧ x.rp v ≠ x.uB

section
variable {B0 nM : Nat} {nm : Nat → ByteArray} {x : X} {w w' : World}

theorem BP.lc (h : BP B0 nM nm x w) : w.cell? ⟨x.L, 0, none⟩ = some (x.ow 13) ∧ w.cell? ⟨x.L, 1, none⟩ = some (.slice (some ⟨x.mB, 0, none⟩) (nM + 2) (nM + 2)) ∧ w.cell? ⟨x.L, 2, none⟩ = some (.map (some x.mp)) ∧ w.cell? ⟨x.L, 3, none⟩ = some (x.ow 0) ∧ w.cell? ⟨x.L, 4, none⟩ = some (.slice (some ⟨x.rB, 0, none⟩) (nM + 2) (nM + 2)) ∧ w.cell? ⟨x.L, 5, none⟩ = some (.slice (some ⟨x.uB, 0, none⟩) (nM + 2) (nM + 2)) ∧ ∀ i, w.frozen? ⟨x.L, i, none⟩ = false := by
  have e := h.hL
  refine ⟨?_, ?_, ?_, ?_, ?_, ?_, fun i => frozen_of_row w x.L i _ _ e⟩
  · rw [cell_of_row w x.L 0 _ _ _ e]; rfl
  · rw [cell_of_row w x.L 1 _ _ _ e]; rfl
  · rw [cell_of_row w x.L 2 _ _ _ e]; rfl
  · rw [cell_of_row w x.L 3 _ _ _ e]; rfl
  · rw [cell_of_row w x.L 4 _ _ _ e]; rfl
  · rw [cell_of_row w x.L 5 _ _ _ e]; rfl

/-- nothing turned; blocks may be new -/
theorem BP.kp0 (h : BP B0 nM nm x w) (k : Kp (fun _ => False) w w') : BP B0 nM nm x w' :=
  ⟨Nat.le_trans h.b0 k.size, h.sl.more k h.b0 (fun _ e => .inl e), (k.block _ (h.sl.fl _ h.f.1).1 id).trans h.hL, k.rowIs h.mat id, k.rowIs h.rv id, k.rowIs h.uv id, k.mapIs h.map id, h.f, h.ne, fun v hv => by
    obtain ⟨a1, a2, a3⟩ := h.rp v hv
    exact ⟨k.cell a1 id, k.cell a2 id, a3⟩⟩

/-- a slice of no row grows: 1, 2 -/
theorem BP.app (h : BP B0 nM nm x w) (i : Nat) (h0 : i ≠ 0) (h13 : i ≠ 13) (hr : ∀ n, n < nM + 2 → i ≠ 3 + n) (hu : ∀ n, n < nM + 2 → i ≠ 8 + n) {g cap n' : Nat} {xs' : List Value} (hown : w'.ownsRow 0 (tyS i) (szS i) (.slice (some ⟨g, 0, none⟩) n' cap) n' xs') (k : Kp (fun k => (x.ow i).ownBlock = some k) w w') (hat : (x.ow i).ownBlock = some g ∨ w.heap.size ≤ g) :
    BP B0 nM nm { x with ow := up x.ow i (.slice (some ⟨g, 0, none⟩) n' cap), ct := up x.ct i n', vs := up x.vs i xs' } w' := by
  have nf : ∀ j, x.fz j → ¬ ((x.ow i).ownBlock = some j) := fun j hj e => (h.sl.nf i j e).1 hj
  refine ⟨Nat.le_trans h.b0 k.size, h.sl.app i hown k hat h.b0, ?_, k.rowIs h.mat (nf _ h.f.2.1), ?_, ?_, k.mapIs h.map (nf _ h.f.2.2.2.2), h.f, h.ne, fun v hv => ?_⟩
  · refine (k.block _ (h.sl.fl _ h.f.1).1 (nf _ h.f.1)).trans (h.hL.trans ?_)
    unfold lC
    dsimp only
    rw [up_ne _ _ (fun e => h13 e.symm), up_ne _ _ (fun e => h0 e.symm)]
  · refine (k.rowIs h.rv (nf _ h.f.2.2.1)).congr ?_
    intro n hn
    dsimp only
    rw [up_ne _ _ (fun e => hr n hn e.symm)]
  · refine (k.rowIs h.uv (nf _ h.f.2.2.2.1)).congr ?_
    intro n hn
    dsimp only
    rw [up_ne _ _ (fun e => hu n hn e.symm)]
  · obtain ⟨a1, a2, a3, a4⟩ := h.rp v hv
    exact ⟨k.cell a1 (nf _ a3), k.cell a2 (nf _ a3), a3, a4⟩

/-- the values grow, and the graph's cell -/
theorem BP.app0 (h : BP B0 nM nm x w) {g cap n' : Nat} {xs' : List Value} (hown : w'.ownsRow 0 99 5 (.slice (some ⟨g, 0, none⟩) n' cap) n' xs') (k : Kp (fun k => (x.ow 0).ownBlock = some k) w w') (hat : (x.ow 0).ownBlock = some g ∨ w.heap.size ≤ g) :
    BP B0 nM nm { x with ow := up x.ow 0 (.slice (some ⟨g, 0, none⟩) n' cap), ct := up x.ct 0 n', vs := up x.vs 0 xs' } (w'.setCell ⟨x.L, 3, none⟩ (.slice (some ⟨g, 0, none⟩) n' cap)) := by
  have nf : ∀ j, x.fz j → ¬ ((x.ow 0).ownBlock = some j) := fun j hj e => (h.sl.nf 0 j e).1 hj
  have ks := Kp.set1 w' x.L 3 (.slice (some ⟨g, 0, none⟩) n' cap)
  have h1 := h.sl.app 0 hown k hat h.b0
  obtain ⟨e1, e2, e3, e4, e5, e6, e7, e8, e9⟩ := h.ne
  have hL' : w'.heap[x.L]? = some (.cells (lC nM x) 42 (0, 0)) := (k.block _ (h.sl.fl _ h.f.1).1 (nf _ h.f.1)).trans h.hL
  refine ⟨?_, h1.kp (ks.mono (fun i _ e => by rw [e]; exact h.f.1)), ?_, ks.rowIs (k.rowIs h.mat (nf _ h.f.2.1)) (fun e => e1 e.symm), ?_, ?_, ks.mapIs (k.mapIs h.map (nf _ h.f.2.2.2.2)) (fun e => e4 e.symm), h.f, h.ne, fun v hv => ?_⟩
  · have := h.b0; have := k.size; have := ks.size; omega
  · rw [heap_setCell_same w' x.L 3 _ 42 _ hL']
    unfold lC
    dsimp only
    rw [up_ne _ _ (by omega), up_same]
    rfl
  · refine (ks.rowIs (k.rowIs h.rv (nf _ h.f.2.2.1)) (fun e => e2 e.symm)).congr ?_
    intro n hn
    dsimp only
    rw [up_ne _ _ (by omega)]
  · refine (ks.rowIs (k.rowIs h.uv (nf _ h.f.2.2.2.1)) (fun e => e3 e.symm)).congr ?_
    intro n hn
    dsimp only
    rw [up_ne _ _ (by omega)]
  · obtain ⟨a1, a2, a3, a4, a5, a6⟩ := h.rp v hv
    exact ⟨ks.cell (k.cell a1 (nf _ a3)) a4, ks.cell (k.cell a2 (nf _ a3)) a4, a3, a4, a5, a6⟩

/-- the revisions of m grow, and the row's cell -/
theorem BP.appR (h : BP B0 nM nm x w) (m : Nat) (hm : m < nM + 2) (hM : nM ≤ 3) {g cap n' : Nat} {xs' : List Value} (hown : w'.ownsRow 0 48 1 (.slice (some ⟨g, 0, none⟩) n' cap) n' xs') (k : Kp (fun k => (x.ow (3 + m)).ownBlock = some k) w w') (hat : (x.ow (3 + m)).ownBlock = some g ∨ w.heap.size ≤ g) :
    BP B0 nM nm { x with ow := up x.ow (3 + m) (.slice (some ⟨g, 0, none⟩) n' cap), ct := up x.ct (3 + m) n', vs := up x.vs (3 + m) xs' } (w'.setCell ⟨x.rB, m, none⟩ (.slice (some ⟨g, 0, none⟩) n' cap)) := by
  have nf : ∀ j, x.fz j → ¬ ((x.ow (3 + m)).ownBlock = some j) := fun j hj e => (h.sl.nf _ j e).1 hj
  have ks := Kp.set1 w' x.rB m (.slice (some ⟨g, 0, none⟩) n' cap)
  have h1 := h.sl.app (3 + m) (by rw [tyS_else (by omega) (by omega) (by omega), szS_else (by omega)]; exact hown) k hat h.b0
  obtain ⟨e1, e2, e3, e4, e5, e6, e7, e8, e9⟩ := h.ne
  refine ⟨?_, h1.kp (ks.mono (fun i _ e => by rw [e]; exact h.f.2.2.1)), ?_, ks.rowIs (k.rowIs h.mat (nf _ h.f.2.1)) (fun e => e5 e), ?_, ?_, ks.mapIs (k.mapIs h.map (nf _ h.f.2.2.2.2)) (fun e => e8 e), h.f, h.ne, fun v hv => ?_⟩
  · have := h.b0; have := k.size; have := ks.size; omega
  · refine (ks.block _ ?_ (fun e => e2 e)).trans ((k.block _ (h.sl.fl _ h.f.1).1 (nf _ h.f.1)).trans (h.hL.trans ?_))
    · have := (h.sl.fl _ h.f.1).1; have := k.size; omega
    · unfold lC
      dsimp only
      rw [up_ne _ _ (by omega), up_ne _ _ (by omega)]
  · refine ((k.rowIs h.rv (nf _ h.f.2.2.1)).set m _).congr ?_
    intro n hn
    dsimp only
    by_cases e : n = m
    · rw [if_pos e, e, up_same]
    · rw [if_neg e, up_ne _ _ (by omega)]
  · refine (ks.rowIs (k.rowIs h.uv (nf _ h.f.2.2.2.1)) (fun e => e7 e.symm)).congr ?_
    intro n hn
    dsimp only
    rw [up_ne _ _ (by omega)]
  · obtain ⟨a1, a2, a3, a4, a5, a6⟩ := h.rp v hv
    exact ⟨ks.cell (k.cell a1 (nf _ a3)) a5, ks.cell (k.cell a2 (nf _ a3)) a5, a3, a4, a5, a6⟩

/-- the runs of m grow, and the row's cell -/
theorem BP.appU (h : BP B0 nM nm x w) (m : Nat) (hm : m < nM + 2) (hM : nM ≤ 3) {g cap n' : Nat} {xs' : List Value} (hown : w'.ownsRow 0 48 1 (.slice (some ⟨g, 0, none⟩) n' cap) n' xs') (k : Kp (fun k => (x.ow (8 + m)).ownBlock = some k) w w') (hat : (x.ow (8 + m)).ownBlock = some g ∨ w.heap.size ≤ g) :
    BP B0 nM nm { x with ow := up x.ow (8 + m) (.slice (some ⟨g, 0, none⟩) n' cap), ct := up x.ct (8 + m) n', vs := up x.vs (8 + m) xs' } (w'.setCell ⟨x.uB, m, none⟩ (.slice (some ⟨g, 0, none⟩) n' cap)) := by
  have nf : ∀ j, x.fz j → ¬ ((x.ow (8 + m)).ownBlock = some j) := fun j hj e => (h.sl.nf _ j e).1 hj
  have ks := Kp.set1 w' x.uB m (.slice (some ⟨g, 0, none⟩) n' cap)
  have h1 := h.sl.app (8 + m) (by rw [tyS_else (by omega) (by omega) (by omega), szS_else (by omega)]; exact hown) k hat h.b0
  obtain ⟨e1, e2, e3, e4, e5, e6, e7, e8, e9⟩ := h.ne
  refine ⟨?_, h1.kp (ks.mono (fun i _ e => by rw [e]; exact h.f.2.2.2.1)), ?_, ks.rowIs (k.rowIs h.mat (nf _ h.f.2.1)) (fun e => e6 e), ?_, ?_, ks.mapIs (k.mapIs h.map (nf _ h.f.2.2.2.2)) (fun e => e9 e), h.f, h.ne, fun v hv => ?_⟩
  · have := h.b0; have := k.size; have := ks.size; omega
  · refine (ks.block _ ?_ (fun e => e3 e)).trans ((k.block _ (h.sl.fl _ h.f.1).1 (nf _ h.f.1)).trans (h.hL.trans ?_))
    · have := (h.sl.fl _ h.f.1).1; have := k.size; omega
    · unfold lC
      dsimp only
      rw [up_ne _ _ (by omega), up_ne _ _ (by omega)]
  · refine (ks.rowIs (k.rowIs h.rv (nf _ h.f.2.2.1)) (fun e => e7 e)).congr ?_
    intro n hn
    dsimp only
    rw [up_ne _ _ (by omega)]
  · refine ((k.rowIs h.uv (nf _ h.f.2.2.2.1)).set m _).congr ?_
    intro n hn
    dsimp only
    by_cases e : n = m
    · rw [if_pos e, e, up_same]
    · rw [if_neg e, up_ne _ _ (by omega)]
  · obtain ⟨a1, a2, a3, a4, a5, a6⟩ := h.rp v hv
    exact ⟨ks.cell (k.cell a1 (nf _ a3)) a6, ks.cell (k.cell a2 (nf _ a3)) a6, a3, a4, a5, a6⟩

/-- a run's box -/
theorem BP.box (h : BP B0 nM nm x w) (k : Kp (fun _ => False) w w') (v B c : Nat) (ps : Bool) (hB : w.heap.size ≤ B) (hB' : B < w'.heap.size) (h1 : w'.cell? ⟨B, 1, none⟩ = some (.int .i64 ((c : Nat) : Int))) (h3 : w'.cell? ⟨B, 3, none⟩ = some (.string (if ps then strPassed else strFailed))) :
    BP B0 nM nm { x with fz := fun k => x.fz k ∨ k = B, rd := up x.rd v true, rp := up x.rp v B, ctr := up x.ctr v c, pas := up x.pas v ps } w' := by
  have h0 := h.kp0 k
  have hf : ∀ j, x.fz j → j ≠ B := fun j hj e => by have := (h.sl.fl j hj).1; omega
  refine ⟨h0.b0, h.sl.more k h.b0 ?_, h0.hL, h0.mat, h0.rv, h0.uv, h0.map, ⟨.inl h.f.1, .inl h.f.2.1, .inl h.f.2.2.1, .inl h.f.2.2.2.1, .inl h.f.2.2.2.2⟩, h.ne, fun u hu => ?_⟩
  · rintro j (e | e)
    · exact .inl e
    · exact .inr (by omega)
  · by_cases e : u = v
    · subst e
      dsimp only
      simp only [up_same]
      exact ⟨h1, h3, .inr trivial, fun e => hf _ h.f.1 e.symm, fun e => hf _ h.f.2.2.1 e.symm, fun e => hf _ h.f.2.2.2.1 e.symm⟩
    · dsimp only at hu ⊢
      rw [up_ne _ _ e] at hu
      simp only [up_ne _ _ e]
      obtain ⟨a1, a2, a3, a4⟩ := h0.rp u hu
      exact ⟨a1, a2, .inl a3, a4⟩

/-- the inputs are v's now -/
theorem BP.mv (h : BP B0 nM nm x w) (v : Nat) (hM : nM ≤ 3) : BP B0 nM nm { x with ow := up (up x.ow (20 + v) (x.ow 2)) 2 (.slice none 0 0), ct := up (up x.ct (20 + v) (x.ct 2)) 2 0, vs := up (up x.vs (20 + v) (x.vs 2)) 2 [] } w := by
  have e : ∀ i, i ≠ 2 → i < 20 → (up (up x.ow (20 + v) (x.ow 2)) 2 (.slice none 0 0)) i = x.ow i := fun i h1 h2 => by rw [up_ne _ _ h1, up_ne _ _ (by omega)]
  refine ⟨h.b0, h.sl.move 2 (20 + v) (by omega) (by rw [tyS_else (by omega) (by omega) (by omega), tyS_else (by omega) (by omega) (by omega)]) (by rw [szS_else (by omega), szS_else (by omega)]), ?_, h.mat, ?_, ?_, h.map, h.f, h.ne, h.rp⟩
  · refine h.hL.trans ?_
    unfold lC
    dsimp only
    rw [e 13 (by omega) (by omega), e 0 (by omega) (by omega)]
  · refine h.rv.congr ?_
    intro n hn
    dsimp only
    rw [e _ (by omega) (by omega)]
  · refine h.uv.congr ?_
    intro n hn
    dsimp only
    rw [e _ (by omega) (by omega)]
end

/-! ### what the graph in the making says -/
structure PD where
  nV : Nat
  node : Nat → Nat
  pos : Nat → Nat
  psn : Nat → Nat
  ins : Nat → List Nat
  revs : Nat → List Nat
  runs : Nat → List Nat

structure BL (nM : Nat) (ow : Nat → Value) (ct : Nat → Nat) (vs : Nat → List Value) (rd : Nat → Bool) (rp ctr : Nat → Nat) (p : PD) (vc : Nat → Nat → Value) : Prop where
  c0 : ct 0 = p.nV
  l0 : (vs 0).length = p.nV * 5
  v0 : ∀ v, v < p.nV → ∀ j, j < 5 → (vs 0)[v * 5 + j]? = some (vc v j)
  c1 : ct 1 = p.nV
  l1 : (vs 1).length = p.nV
  v1 : ∀ v, v < p.nV → (vs 1)[v]? = some (.int .i64 ((p.pos v : Nat) : Int))
  r : ∀ n, n < nM + 2 → vs (3 + n) = i32s (p.revs n)
  u : ∀ n, n < nM + 2 → vs (8 + n) = i32s (p.runs n)
  i : ∀ v, v < p.nV → vs (20 + v) = i32s (p.ins v)
  a0 : ∀ v, v < p.nV → vc v 0 = .int .i32 ((p.node v : Nat) : Int)
  a4 : ∀ v, v < p.nV → vc v 4 = ow (20 + v)
  a3 : ∀ v, v < p.nV → nM ≤ p.node v → vc v 3 = .pointer (some ⟨rp v, 0, none⟩) ∧ rd v = true ∧ ctr v ≤ 1000
  a2 : ∀ v, v < p.nV → p.node v < nM → vc v 2 = .int .i64 ((p.psn v : Nat) : Int) ∧ p.psn v ≤ 1000
  nd : ∀ v, v < p.nV → p.node v < nM + 2
  is : ∀ v, v < p.nV → ∀ u, u ∈ p.ins v → u < p.nV ∧ p.ins u = [] ∧ p.node u < nM ∧ nM ≤ p.node v
  inn : ∀ v, v < p.nV → ((p.ins v).map p.node).Nodup
  il : ∀ v, v < p.nV → (p.ins v).length ≤ 3
  rv : ∀ n, n < nM → ∀ u, u ∈ p.revs n → u < p.nV ∧ p.node u = n ∧ p.ins u = []
  ru : ∀ n, nM ≤ n → n < nM + 2 → ∀ u, u ∈ p.runs n → u < p.nV ∧ nM ≤ p.node u
  po : ∀ v, v < p.nV → p.pos v ≤ 1000
  c : ∀ v, ctr v ≤ 1000
  ow20 : ∀ v, p.nV ≤ v → ow (20 + v) = .slice none 0 0 ∧ vs (20 + v) = []

/-- a revision of m is laid -/
def PD.addR (p : PD) (m : Nat) : PD := { p with nV := p.nV + 1, node := up p.node p.nV m, pos := up p.pos p.nV (p.nV + 1), psn := up p.psn p.nV (p.nV + 1), ins := up p.ins p.nV [], revs := up p.revs m (p.revs m ++ [p.nV]) }
/-- a run of n is laid -/
def PD.addU (p : PD) (n ps : Nat) (l : List Nat) : PD := { p with nV := p.nV + 1, node := up p.node p.nV n, pos := up p.pos p.nV ps, ins := up p.ins p.nV l, runs := up p.runs n (p.runs n ++ [p.nV]) }

theorem getElem?_app5 {l us : List Value} {n v j : Nat} (hl : l.length = n * 5) (hu : us.length = 5) (hj : j < 5) : (l ++ us)[v * 5 + j]? = if v < n then l[v * 5 + j]? else if v = n then us[j]? else none := by
  by_cases h : v < n
  · rw [if_pos h, List.getElem?_append_left (by omega)]
  · rw [if_neg h]
    by_cases e : v = n
    · rw [if_pos e, List.getElem?_append_right (by omega), hl, e, Nat.add_sub_cancel_left]
    · rw [if_neg e, List.getElem?_eq_none (by rw [List.length_append]; omega)]

section
variable {nM : Nat} {ow : Nat → Value} {ct : Nat → Nat} {vs : Nat → List Value} {rd : Nat → Bool} {rp ctr : Nat → Nat} {p : PD} {vc : Nat → Nat → Value}

theorem i32s_snoc (xs : List Nat) (v : Nat) : i32s xs ++ [.int .i32 (v : Int)] = i32s (xs ++ [v]) := by simp [i32s]

theorem BL.rev (h : BL nM ow ct vs rd rp ctr p vc) (hM : nM ≤ 3) (hV : p.nV ≤ 900) {m : Nat} (hm : m < nM) (a b c : Value) (uc : Nat → Value) (us : List Value) (hus : us.length = 5) (hu : ∀ j, j < 5 → us[j]? = some (uc j)) (h0 : uc 0 = .int .i32 (m : Int)) (h2 : uc 2 = .int .i64 ((p.nV : Int) + 1)) (h4 : uc 4 = .slice none 0 0) :
    BL nM (up (up (up ow 0 a) 1 b) (3 + m) c) (up (up (up ct 0 (p.nV + 1)) 1 (p.nV + 1)) (3 + m) ((p.revs m).length + 1)) (up (up (up vs 0 (vs 0 ++ us)) 1 (vs 1 ++ [.int .i64 ((p.nV : Int) + 1)])) (3 + m) (vs (3 + m) ++ [.int .i32 (p.nV : Int)])) rd rp ctr (p.addR m) (up vc p.nV uc) := by
  have e0 : ∀ {α : Type} (f : Nat → α) (a b c : α), up (up (up f 0 a) 1 b) (3 + m) c 0 = a := fun f a b c => by rw [up_ne _ _ (by omega), up_ne _ _ (by omega), up_same]
  have e1 : ∀ {α : Type} (f : Nat → α) (a b c : α), up (up (up f 0 a) 1 b) (3 + m) c 1 = b := fun f a b c => by rw [up_ne _ _ (by omega), up_same]
  have eo : ∀ {α : Type} (f : Nat → α) (a b c : α) (j : Nat), j ≠ 0 → j ≠ 1 → j ≠ 3 + m → up (up (up f 0 a) 1 b) (3 + m) c j = f j := fun f a b c j h0 h1 h2 => by rw [up_ne _ _ h2, up_ne _ _ h1, up_ne _ _ h0]
  unfold PD.addR
  have lt : ∀ {v}, v < p.nV + 1 → v ≠ p.nV → v < p.nV := fun h1 h2 => by omega
  refine ⟨e0 .., ?_, ?_, e1 .., ?_, ?_, ?_, ?_, ?_, ?_, ?_, ?_, ?_, ?_, ?_, ?_, ?_, ?_, ?_, ?_, ?_, ?_⟩
  · rw [e0, List.length_append, h.l0, hus]; dsimp only; omega
  · intro v hv j hj
    rw [e0, getElem?_app5 h.l0 hus hj]
    by_cases e : v = p.nV
    · subst e; rw [if_neg (by omega), if_pos rfl, up_same]; exact hu j hj
    · rw [if_pos (lt hv e), up_ne _ _ e]; exact h.v0 v (lt hv e) j hj
  · rw [e1, List.length_append, h.l1]; rfl
  · intro v hv
    rw [e1]
    dsimp only
    by_cases e : v = p.nV
    · subst e
      rw [List.getElem?_append_right (by rw [h.l1]; omega), h.l1, Nat.sub_self, up_same]; rfl
    · rw [List.getElem?_append_left (by rw [h.l1]; exact lt hv e), up_ne _ _ e]; exact h.v1 v (lt hv e)
  · intro n hn
    dsimp only
    by_cases e : n = m
    · subst e; rw [up_same, up_same, h.r n hn, i32s_snoc]
    · rw [eo _ _ _ _ _ (by omega) (by omega) (by omega), up_ne _ _ e]; exact h.r n hn
  · intro n hn
    rw [eo _ _ _ _ _ (by omega) (by omega) (by omega)]; exact h.u n hn
  · intro v hv
    rw [eo _ _ _ _ _ (by omega) (by omega) (by omega)]
    dsimp only
    by_cases e : v = p.nV
    · subst e; rw [up_same, (h.ow20 _ (Nat.le_refl _)).2]; rfl
    · rw [up_ne _ _ e]; exact h.i v (lt hv e)
  · intro v hv
    dsimp only
    by_cases e : v = p.nV
    · subst e; rw [up_same, up_same, h0]
    · rw [up_ne _ _ e, up_ne _ _ e]; exact h.a0 v (lt hv e)
  · intro v hv
    rw [eo _ _ _ _ _ (by omega) (by omega) (by omega)]
    by_cases e : v = p.nV
    · subst e; rw [up_same, h4, (h.ow20 _ (Nat.le_refl _)).1]
    · rw [up_ne _ _ e]; exact h.a4 v (lt hv e)
  · intro v hv
    dsimp only
    by_cases e : v = p.nV
    · subst e; rw [up_same]; intro h; omega
    · rw [up_ne _ _ e, up_ne _ _ e]; exact h.a3 v (lt hv e)
  · intro v hv
    dsimp only
    by_cases e : v = p.nV
    · subst e; rw [up_same, up_same, up_same, h2]; intro _; exact ⟨rfl, by omega⟩
    · rw [up_ne _ _ e, up_ne _ _ e, up_ne _ _ e]; exact h.a2 v (lt hv e)
  · intro v hv
    dsimp only
    by_cases e : v = p.nV
    · subst e; rw [up_same]; omega
    · rw [up_ne _ _ e]; exact h.nd v (lt hv e)
  · intro v hv u
    dsimp only
    by_cases e : v = p.nV
    · subst e; rw [up_same]; intro h; cases h
    · rw [up_ne _ _ e, up_ne _ _ e]
      intro hu
      obtain ⟨b1, b2, b3, b4⟩ := h.is v (lt hv e) u hu
      rw [up_ne _ _ (by omega), up_ne _ _ (by omega)]
      exact ⟨by omega, b2, b3, b4⟩
  · intro v hv
    dsimp only
    by_cases e : v = p.nV
    · subst e; rw [up_same]; exact List.nodup_nil
    · rw [up_ne _ _ e]
      have h1 := h.inn v (lt hv e)
      rw [List.map_congr_left (g := p.node)]
      · exact h1
      · intro u hu
        rw [up_ne _ _ (by have := (h.is v (lt hv e) u hu).1; omega)]
  · intro v hv
    dsimp only
    by_cases e : v = p.nV
    · subst e; rw [up_same]; exact Nat.zero_le _
    · rw [up_ne _ _ e]; exact h.il v (lt hv e)
  · intro n hn u
    dsimp only
    by_cases e : n = m
    · subst e
      rw [up_same]
      intro hu
      rcases List.mem_append.1 hu with hu | hu
      · obtain ⟨b1, b2, b3⟩ := h.rv n hn u hu
        rw [up_ne _ _ (by omega), up_ne _ _ (by omega)]
        exact ⟨by omega, b2, b3⟩
      · have : u = p.nV := by simpa using hu
        subst this
        rw [up_same, up_same]
        exact ⟨by omega, rfl, rfl⟩
    · rw [up_ne _ _ e]
      intro hu
      obtain ⟨b1, b2, b3⟩ := h.rv n hn u hu
      rw [up_ne _ _ (by omega), up_ne _ _ (by omega)]
      exact ⟨by omega, b2, b3⟩
  · intro n h1 h2 u hu
    obtain ⟨b1, b2⟩ := h.ru n h1 h2 u hu
    dsimp only
    rw [up_ne _ _ (by omega)]
    exact ⟨by omega, b2⟩
  · intro v hv
    dsimp only
    by_cases e : v = p.nV
    · subst e; rw [up_same]; omega
    · rw [up_ne _ _ e]; exact h.po v (lt hv e)
  · exact h.c
  · intro v hv
    rw [eo _ _ _ _ _ (by omega) (by omega) (by omega), eo _ _ _ _ _ (by omega) (by omega) (by omega)]
    exact h.ow20 v (by dsimp only at hv; omega)

theorem BL.run (h : BL nM ow ct vs rd rp ctr p vc) (hM : nM ≤ 3) {n : Nat} (hn : nM ≤ n) (hn2 : n < nM + 2) (a b c al : Value) (uc : Nat → Value) (us : List Value) (hus : us.length = 5) (hu : ∀ j, j < 5 → us[j]? = some (uc j)) (B cn ps : Nat) (l : List Nat) (h0 : uc 0 = .int .i32 (n : Int)) (h3 : uc 3 = .pointer (some ⟨B, 0, none⟩)) (h4 : uc 4 = al)
    (hps : ps ≤ 1000) (hcn : cn ≤ 1000) (hl : ∀ u, u ∈ l → u < p.nV ∧ p.ins u = [] ∧ p.node u < nM) (hlm : (l.map p.node).Nodup) (hll : l.length ≤ 3) (cl : Nat) (vl : List Value) (hvl : vl = i32s l) :
    BL nM (up (up (up (up (up ow 0 a) 1 b) (8 + n) c) (20 + p.nV) al) 2 (.slice none 0 0)) (up (up (up (up (up ct 0 (p.nV + 1)) 1 (p.nV + 1)) (8 + n) ((p.runs n).length + 1)) (20 + p.nV) cl) 2 0)
      (up (up (up (up (up vs 0 (vs 0 ++ us)) 1 (vs 1 ++ [.int .i64 (ps : Int)])) (8 + n) (vs (8 + n) ++ [.int .i32 (p.nV : Int)])) (20 + p.nV) vl) 2 []) (up rd p.nV true) (up rp p.nV B) (up ctr p.nV cn) (p.addU n ps l) (up vc p.nV uc) := by
  have e0 : ∀ {α : Type} (f : Nat → α) (a b c d e : α), up (up (up (up (up f 0 a) 1 b) (8 + n) c) (20 + p.nV) d) 2 e 0 = a := fun f a b c d e => by rw [up_ne _ _ (by omega), up_ne _ _ (by omega), up_ne _ _ (by omega), up_ne _ _ (by omega), up_same]
  have e1 : ∀ {α : Type} (f : Nat → α) (a b c d e : α), up (up (up (up (up f 0 a) 1 b) (8 + n) c) (20 + p.nV) d) 2 e 1 = b := fun f a b c d e => by rw [up_ne _ _ (by omega), up_ne _ _ (by omega), up_ne _ _ (by omega), up_same]
  have e8 : ∀ {α : Type} (f : Nat → α) (a b c d e : α), up (up (up (up (up f 0 a) 1 b) (8 + n) c) (20 + p.nV) d) 2 e (8 + n) = c := fun f a b c d e => by rw [up_ne _ _ (by omega), up_ne _ _ (by omega), up_same]
  have e20 : ∀ {α : Type} (f : Nat → α) (a b c d e : α), up (up (up (up (up f 0 a) 1 b) (8 + n) c) (20 + p.nV) d) 2 e (20 + p.nV) = d := fun f a b c d e => by rw [up_ne _ _ (by omega), up_same]
  have eo : ∀ {α : Type} (f : Nat → α) (a b c d e : α) (j : Nat), j ≠ 0 → j ≠ 1 → j ≠ 8 + n → j ≠ 20 + p.nV → j ≠ 2 → up (up (up (up (up f 0 a) 1 b) (8 + n) c) (20 + p.nV) d) 2 e j = f j := fun f a b c d e j h0 h1 h2 h3 h4 => by rw [up_ne _ _ h4, up_ne _ _ h3, up_ne _ _ h2, up_ne _ _ h1, up_ne _ _ h0]
  unfold PD.addU
  have lt : ∀ {v}, v < p.nV + 1 → v ≠ p.nV → v < p.nV := fun h1 h2 => by omega
  refine ⟨e0 .., ?_, ?_, e1 .., ?_, ?_, ?_, ?_, ?_, ?_, ?_, ?_, ?_, ?_, ?_, ?_, ?_, ?_, ?_, ?_, ?_, ?_⟩
  · rw [e0, List.length_append, h.l0, hus]; dsimp only; omega
  · intro v hv j hj
    rw [e0, getElem?_app5 h.l0 hus hj]
    by_cases e : v = p.nV
    · subst e; rw [if_neg (by omega), if_pos rfl, up_same]; exact hu j hj
    · rw [if_pos (lt hv e), up_ne _ _ e]; exact h.v0 v (lt hv e) j hj
  · rw [e1, List.length_append, h.l1]; rfl
  · intro v hv
    rw [e1]
    dsimp only
    by_cases e : v = p.nV
    · subst e
      rw [List.getElem?_append_right (by rw [h.l1]; omega), h.l1, Nat.sub_self, up_same]; rfl
    · rw [List.getElem?_append_left (by rw [h.l1]; exact lt hv e), up_ne _ _ e]; exact h.v1 v (lt hv e)
  · intro m hm
    rw [eo _ _ _ _ _ _ _ (by omega) (by omega) (by omega) (by omega) (by omega)]; exact h.r m hm
  · intro m hm
    dsimp only
    by_cases e : m = n
    · subst e; rw [e8, up_same, h.u m hm, i32s_snoc]
    · rw [eo _ _ _ _ _ _ _ (by omega) (by omega) (by omega) (by omega) (by omega), up_ne _ _ e]; exact h.u m hm
  · intro v hv
    dsimp only
    by_cases e : v = p.nV
    · subst e; rw [e20, up_same]; exact hvl
    · rw [eo _ _ _ _ _ _ _ (by omega) (by omega) (by omega) (by omega) (by omega), up_ne _ _ e]; exact h.i v (lt hv e)
  · intro v hv
    dsimp only
    by_cases e : v = p.nV
    · subst e; rw [up_same, up_same, h0]
    · rw [up_ne _ _ e, up_ne _ _ e]; exact h.a0 v (lt hv e)
  · intro v hv
    by_cases e : v = p.nV
    · subst e; rw [up_same, h4, e20]
    · rw [eo _ _ _ _ _ _ _ (by omega) (by omega) (by omega) (by omega) (by omega), up_ne _ _ e]; exact h.a4 v (lt hv e)
  · intro v hv
    dsimp only
    by_cases e : v = p.nV
    · subst e; rw [up_same, up_same, up_same, up_same, up_same, h3]; intro _; exact ⟨rfl, rfl, hcn⟩
    · rw [up_ne _ _ e, up_ne _ _ e, up_ne _ _ e, up_ne _ _ e, up_ne _ _ e]; exact h.a3 v (lt hv e)
  · intro v hv
    dsimp only
    by_cases e : v = p.nV
    · subst e; rw [up_same]; intro h; omega
    · rw [up_ne _ _ e, up_ne _ _ e]; exact h.a2 v (lt hv e)
  · intro v hv
    dsimp only
    by_cases e : v = p.nV
    · subst e; rw [up_same]; omega
    · rw [up_ne _ _ e]; exact h.nd v (lt hv e)
  · intro v hv u
    dsimp only
    by_cases e : v = p.nV
    · subst e; rw [up_same, up_same]
      intro hu
      obtain ⟨b1, b2, b3⟩ := hl u hu
      rw [up_ne _ _ (by omega), up_ne _ _ (by omega)]
      exact ⟨by omega, b2, b3, hn⟩
    · rw [up_ne _ _ e, up_ne _ _ e]
      intro hu
      obtain ⟨b1, b2, b3, b4⟩ := h.is v (lt hv e) u hu
      rw [up_ne _ _ (by omega), up_ne _ _ (by omega)]
      exact ⟨by omega, b2, b3, b4⟩
  · intro v hv
    dsimp only
    by_cases e : v = p.nV
    · subst e
      rw [up_same, List.map_congr_left (g := p.node)]
      · exact hlm
      · intro u hu
        rw [up_ne _ _ (by have := (hl u hu).1; omega)]
    · rw [up_ne _ _ e]
      have h1 := h.inn v (lt hv e)
      rw [List.map_congr_left (g := p.node)]
      · exact h1
      · intro u hu
        rw [up_ne _ _ (by have := (h.is v (lt hv e) u hu).1; omega)]
  · intro v hv
    dsimp only
    by_cases e : v = p.nV
    · subst e; rw [up_same]; exact hll
    · rw [up_ne _ _ e]; exact h.il v (lt hv e)
  · intro m hm u hu
    obtain ⟨b1, b2, b3⟩ := h.rv m hm u hu
    dsimp only
    rw [up_ne _ _ (by omega), up_ne _ _ (by omega)]
    exact ⟨by omega, b2, b3⟩
  · intro m h1 h2 u
    dsimp only
    by_cases e : m = n
    · subst e
      rw [up_same]
      intro hu
      rcases List.mem_append.1 hu with hu | hu
      · obtain ⟨b1, b2⟩ := h.ru m h1 h2 u hu
        rw [up_ne _ _ (by omega)]
        exact ⟨by omega, b2⟩
      · have : u = p.nV := by simpa using hu
        subst this
        rw [up_same]
        exact ⟨by omega, hn⟩
    · rw [up_ne _ _ e]
      intro hu
      obtain ⟨b1, b2⟩ := h.ru m h1 h2 u hu
      rw [up_ne _ _ (by omega)]
      exact ⟨by omega, b2⟩
  · intro v hv
    dsimp only
    by_cases e : v = p.nV
    · subst e; rw [up_same]; exact hps
    · rw [up_ne _ _ e]; exact h.po v (lt hv e)
  · intro v
    by_cases e : v = p.nV
    · subst e; rw [up_same]; exact hcn
    · rw [up_ne _ _ e]; exact h.c v
  · intro v hv
    dsimp only at hv
    rw [eo _ _ _ _ _ _ _ (by omega) (by omega) (by omega) (by omega) (by omega), eo _ _ _ _ _ _ _ (by omega) (by omega) (by omega) (by omega) (by omega)]
    exact h.ow20 v (by omega)

theorem BL.two (h : BL nM ow ct vs rd rp ctr p vc) (a : Value) (c : Nat) (l : List Value) (hM : nM ≤ 3) : BL nM (up ow 2 a) (up ct 2 c) (up vs 2 l) rd rp ctr p vc := by
  have eo : ∀ {α : Type} (f : Nat → α) (a : α) (j : Nat), j ≠ 2 → up f 2 a j = f j := fun f a j h => up_ne _ _ h
  refine ⟨by rw [eo _ _ _ (by omega)]; exact h.c0, by rw [eo _ _ _ (by omega)]; exact h.l0, fun v hv j hj => by rw [eo _ _ _ (by omega)]; exact h.v0 v hv j hj, by rw [eo _ _ _ (by omega)]; exact h.c1, by rw [eo _ _ _ (by omega)]; exact h.l1, fun v hv => by rw [eo _ _ _ (by omega)]; exact h.v1 v hv, fun n hn => by rw [eo _ _ _ (by omega)]; exact h.r n hn, fun n hn => by rw [eo _ _ _ (by omega)]; exact h.u n hn, fun v hv => by rw [eo _ _ _ (by omega)]; exact h.i v hv, h.a0, fun v hv => by rw [eo _ _ _ (by omega)]; exact h.a4 v hv, h.a3, h.a2, h.nd, h.is, h.inn, h.il, h.rv, h.ru, h.po, h.c, fun v hv => by rw [eo _ _ _ (by omega), eo _ _ _ (by omega)]; exact h.ow20 v hv⟩
end
end Go.Proofs.Ybulkctjg
