import Derived.Test.YbulkctjgReverse
namespace Go.Proofs.Ybulkctjg
open Go.RowKit
set_option linter.unusedVariables false

/-! ### the graph's own block and rows -/
structure Dy where
  G : Nat
  xB : Nat
  kB : Nat
  fB : Nat
  sB : Nat
  tB : Nat
  yB : Nat
def Dy.fix (y : Dy) : List Nat := [y.G, y.xB, y.kB, y.fB, y.sB, y.tB, y.yB]
structure Dy.Ok (y : Dy) (S : Nat) : Prop where
  nd : y.fix.Nodup
  ge : ∀ k, k ∈ y.fix → S ≤ k

theorem Dy.Ok.ne {y : Dy} {S : Nat} (h : y.Ok S) : y.G ≠ y.xB ∧ y.G ≠ y.kB ∧ y.G ≠ y.fB ∧ y.G ≠ y.sB ∧ y.G ≠ y.tB ∧ y.G ≠ y.yB ∧ y.xB ≠ y.kB ∧ y.xB ≠ y.fB ∧ y.xB ≠ y.sB ∧ y.xB ≠ y.tB ∧ y.xB ≠ y.yB ∧ y.kB ≠ y.fB ∧ y.kB ≠ y.sB ∧ y.kB ≠ y.tB ∧ y.kB ≠ y.yB ∧ y.fB ≠ y.sB ∧ y.fB ≠ y.tB ∧ y.fB ≠ y.yB ∧ y.sB ≠ y.tB ∧ y.sB ≠ y.yB ∧ y.tB ≠ y.yB := by
  have := h.nd
  simp only [Dy.fix, List.nodup_cons, List.mem_cons, List.not_mem_nil, or_false, not_or] at this
  obtain ⟨⟨a1, a2, a3, a4, a5, a6⟩, ⟨b1, b2, b3, b4, b5⟩, ⟨c1, c2, c3, c4⟩, ⟨d1, d2, d3⟩, ⟨e1, e2⟩, f1, _⟩ := this
  exact ⟨a1, a2, a3, a4, a5, a6, b1, b2, b3, b4, b5, c1, c2, c3, c4, d1, d2, d3, e1, e2, f1⟩

def gC (d : D) (b : Bk) (y : Dy) (tv : Value) (c : Int) (sv : Value) : Array Value :=
  #[.pointer (some ⟨b.L, 0, none⟩), .slice (some ⟨b.pB, 0, none⟩) d.nV b.cP, .slice (some ⟨y.xB, 0, none⟩) d.nV d.nV, .slice (some ⟨y.kB, 0, none⟩) (d.nM + 2) (d.nM + 2), .slice (some ⟨y.fB, 0, none⟩) (d.nM + 2) (d.nM + 2),
    tv, .slice (some ⟨y.sB, 0, none⟩) d.nV d.nV, .int .i64 c, sv, .slice (some ⟨y.tB, 0, none⟩) (d.nM + 2) (d.nM + 2), .slice (some ⟨y.yB, 0, none⟩) (d.nM + 2) (d.nM + 2)]
def Gis (d : D) (b : Bk) (y : Dy) (tv : Value) (c : Int) (sv : Value) (w : World) : Prop := w.heap[y.G]? = some (.cells (gC d b y tv c sv) 36 (0, 0))

namespace Gis
variable {d : D} {b : Bk} {y : Dy} {tv : Value} {c : Int} {sv : Value} {w : World}
theorem c0 (h : Gis d b y tv c sv w) : w.cell? ⟨y.G, 0, none⟩ = some (.pointer (some ⟨b.L, 0, none⟩)) := by rw [cell_of_row w y.G 0 _ _ _ h]; rfl
theorem c1 (h : Gis d b y tv c sv w) : w.cell? ⟨y.G, 1, none⟩ = some (.slice (some ⟨b.pB, 0, none⟩) d.nV b.cP) := by rw [cell_of_row w y.G 1 _ _ _ h]; rfl
theorem c2 (h : Gis d b y tv c sv w) : w.cell? ⟨y.G, 2, none⟩ = some (.slice (some ⟨y.xB, 0, none⟩) d.nV d.nV) := by rw [cell_of_row w y.G 2 _ _ _ h]; rfl
theorem c3 (h : Gis d b y tv c sv w) : w.cell? ⟨y.G, 3, none⟩ = some (.slice (some ⟨y.kB, 0, none⟩) (d.nM + 2) (d.nM + 2)) := by rw [cell_of_row w y.G 3 _ _ _ h]; rfl
theorem c4 (h : Gis d b y tv c sv w) : w.cell? ⟨y.G, 4, none⟩ = some (.slice (some ⟨y.fB, 0, none⟩) (d.nM + 2) (d.nM + 2)) := by rw [cell_of_row w y.G 4 _ _ _ h]; rfl
theorem c5 (h : Gis d b y tv c sv w) : w.cell? ⟨y.G, 5, none⟩ = some tv := by rw [cell_of_row w y.G 5 _ _ _ h]; rfl
theorem c6 (h : Gis d b y tv c sv w) : w.cell? ⟨y.G, 6, none⟩ = some (.slice (some ⟨y.sB, 0, none⟩) d.nV d.nV) := by rw [cell_of_row w y.G 6 _ _ _ h]; rfl
theorem c7 (h : Gis d b y tv c sv w) : w.cell? ⟨y.G, 7, none⟩ = some (.int .i64 c) := by rw [cell_of_row w y.G 7 _ _ _ h]; rfl
theorem c8 (h : Gis d b y tv c sv w) : w.cell? ⟨y.G, 8, none⟩ = some sv := by rw [cell_of_row w y.G 8 _ _ _ h]; rfl
theorem c9 (h : Gis d b y tv c sv w) : w.cell? ⟨y.G, 9, none⟩ = some (.slice (some ⟨y.tB, 0, none⟩) (d.nM + 2) (d.nM + 2)) := by rw [cell_of_row w y.G 9 _ _ _ h]; rfl
theorem c10 (h : Gis d b y tv c sv w) : w.cell? ⟨y.G, 10, none⟩ = some (.slice (some ⟨y.yB, 0, none⟩) (d.nM + 2) (d.nM + 2)) := by rw [cell_of_row w y.G 10 _ _ _ h]; rfl
theorem fz (h : Gis d b y tv c sv w) (i : Nat) : w.frozen? ⟨y.G, i, none⟩ = false := frozen_of_row w y.G i _ _ h
theorem lt (h : Gis d b y tv c sv w) : y.G < w.heap.size := by
  obtain ⟨hlt, _⟩ := Array.getElem?_eq_some_iff.1 h
  exact hlt
theorem set5 (h : Gis d b y tv c sv w) (v : Value) : Gis d b y v c sv (w.setCell ⟨y.G, 5, none⟩ v) := heap_setCell_same w y.G 5 _ 36 v h
theorem set7 (h : Gis d b y tv c sv w) (v : Int) : Gis d b y tv v sv (w.setCell ⟨y.G, 7, none⟩ (.int .i64 v)) := heap_setCell_same w y.G 7 _ 36 (.int .i64 v) h
theorem set8 (h : Gis d b y tv c sv w) (v : Value) : Gis d b y tv c v (w.setCell ⟨y.G, 8, none⟩ v) := heap_setCell_same w y.G 8 _ 36 v h
theorem of_block {w' : World} (h : Gis d b y tv c sv w) (e : w'.heap[y.G]? = w.heap[y.G]?) : Gis d b y tv c sv w' := e.trans h
end Gis
theorem Kp.gis {M : Nat → Prop} {u v : World} {d : D} {b : Bk} {y : Dy} {tv : Value} {c : Int} {sv : Value} (k : Kp M u v) (h : Gis d b y tv c sv u) (hG : ¬ M y.G) : Gis d b y tv c sv v := h.of_block (k.block y.G h.lt hG)

/-! ### a slice of int32s that appends have made: nil or a row of its own -/
def OV (w : World) (t : Nat) (v : Value) (xs : List Nat) : Prop := w.ownsRow 0 t 1 v xs.length (i32s xs)
theorem OV.nil (w : World) (t : Nat) : OV w t (.slice none 0 0) [] := World.ownsRow_nil w 0 t 1
theorem OV.of_own {w : World} {t g n cap : Nat} {xs : List Nat} (h : Own w t g n cap xs) : OV w t (.slice (some ⟨g, 0, none⟩) n cap) xs := by
  have := h.len
  unfold OV
  rw [this]
  exact h
theorem OV.lt {w : World} {t : Nat} {v : Value} {xs : List Nat} (h : OV w t v xs) (k : Nat) (e : v.ownBlock = some k) : k < w.heap.size := (World.ownsRow.lt h k e).2
theorem OV.form {w : World} {t : Nat} {v : Value} {xs : List Nat} (h : OV w t v xs) : (v = .slice none 0 0 ∧ xs = []) ∨ ∃ g cap, v = .slice (some ⟨g, 0, none⟩) xs.length cap ∧ Own w t g xs.length cap xs := by
  rcases h.2 with ⟨hv, hn⟩ | ⟨g, cap, cur, hv, hr⟩
  · exact .inl ⟨hv, List.eq_nil_of_length_eq_zero hn⟩
  · refine .inr ⟨g, cap, hv, ?_⟩
    unfold OV at h
    rw [hv] at h
    exact h
theorem Kp.ov {M : Nat → Prop} {u v : World} (k : Kp M u v) {t : Nat} {x : Value} {xs : List Nat} (h : OV u t x xs) (hx : ∀ b, x.ownBlock = some b → ¬ M b) : OV v t x xs := by
  rcases h.form with ⟨rfl, rfl⟩ | ⟨g, cap, rfl, ho⟩
  · exact OV.nil _ _
  · exact OV.of_own (k.own ho (hx g rfl))
/-- cut back to nothing -/
theorem Own.take {w : World} {t g n cap : Nat} {xs : List Nat} (h : Own w t g n cap xs) (m : Nat) (hm : m ≤ n) : Own w t g m cap (xs.take m) := by
  have hl := h.len
  rcases h.2 with ⟨hv, _⟩ | ⟨g', cap', cur, hv, hb, hg, hnc, hmx, hcs, htk⟩
  · cases hv
  · injection hv with h1 h2 h3
    injection h1 with h1
    injection h1 with h1 _ _
    subst h1
    subst h3
    refine ⟨by rw [i32s_length, List.length_take]; omega, .inr ⟨g, cap, cur, rfl, hb, hg, by omega, hmx, hcs, ?_⟩⟩
    have e : i32s (xs.take m) = (i32s xs).take m := by unfold i32s; rw [List.map_take]
    rw [e, ← htk, List.take_take]
    congr 1
    omega

theorem info96 : (Yba.prog.info? 96).map (fun i => (i.zero, i.size, i.bytes)) = some (some (.int .i32 0), 1, 4) := by kernel_rfl
theorem info48 : (Yba.prog.info? 48).map (fun i => (i.zero, i.size, i.bytes)) = some (some (.int .i32 0), 1, 4) := by kernel_rfl
theorem info3 : (Yba.prog.info? 3).map (fun i => (i.zero, i.size, i.bytes)) = some (some (.int .i64 0), 1, 8) := by kernel_rfl
theorem info4 : (Yba.prog.info? 4).map (fun i => (i.zero, i.size, i.bytes)) = some (some (.bool false), 1, 1) := by kernel_rfl
theorem info33 : (Yba.prog.info? 33).map (fun i => (i.zero, i.size, i.bytes)) = some (some (.slice none 0 0), 1, 24) := by kernel_rfl
theorem info133 : (Yba.prog.info? 133).map (fun i => (i.zero, i.size, i.bytes)) = some (some (.slice none 0 0), 1, 24) := by kernel_rfl
theorem info9 : (Yba.prog.info? 9).map (fun i => (i.zero, i.size, i.bytes)) = some (some (.string ⟨#[]⟩), 1, 16) := by kernel_rfl

/-! ### append of one element: the laws in the form that the walks here take -/
section
variable {P : Program} {ops : Array Oper} {rest : List Oper} {o : Oper} {a : Act} {Q : Exit → Act → World → Prop}

theorem wpList_app (W : World) (hgd : o.guard = none) (s x : Operand) (t e : TypeId) (ho : o.op = .call { callee := .builtin .append, args := #[s, x], argTypes := #[t, t] }) (ht : P.underlying t = some (.slice e))
    (z : Value) (size bytes : Nat) (hinfo : (P.info? e).map (fun i => (i.zero, i.size, i.bytes)) = some (some z, size, bytes)) (hz : z.cells.size = size) (hsz : 0 < size) (hby : bytes ≤ 1000)
    (v : Value) (n : Nat) (vs : List Value) (hs : a.eval s = v) (hown : W.ownsRow 0 e size v n vs) (B : Nat) (us : List Value) (hB : W.heap[B]? = some (.cells us.toArray e (0, 0))) (hx : a.eval x = .slice (some ⟨B, 0, none⟩) 1 1) (hus : us.length = size) (hu : ∀ u ∈ us, u.oneCell' = true) (hn : n ≤ 1000)
    (h : ∀ g cap w', w'.ownsRow 0 e size (.slice (some ⟨g, 0, none⟩) (n + 1) cap) (n + 1) (vs ++ us) → Kp (fun k => v.ownBlock = some k) W w' → (v.ownBlock = some g ∨ W.heap.size ≤ g) → g < w'.heap.size → wpList P ops Q rest (a.put o.dst (.slice (some ⟨g, 0, none⟩) (n + 1) cap)) w') :
    wpList P ops Q (o :: rest) a W := by
  obtain ⟨i, hi, hi0, hi1, hi2⟩ := info_parts hinfo
  refine wpList_append_lies W hgd s x t ho 0 e i z size bytes ht hi hi0 hi1 hi2 hz hsz v n vs hs hown ⟨B, 0, none⟩ 1 1 us hx (by omega) (fun j u hj => World.news_of_block hB j u (by simpa using hj)) hu (by omega) (by unfold maxLen; omega) ?_ (Nat.zero_le _) _ rfl ?_
  · calc (n + 1) * bytes ≤ 1001 * 1000 := Nat.mul_le_mul (by omega) hby
      _ ≤ 140737488355328 := by omega
  · intro g cap w' h1 h2 h3 h4
    refine h g cap w' h1 ((Kp.refl _ _).grown h2 (fun k e _ => e)) ?_ h4
    rcases h3 with h3 | h3
    · exact .inl h3
    · exact .inr (by omega)

theorem step_app {K : Act → World → Prop} {E : Prop} (W : World) (hgd : o.guard = none) (s x : Operand) (t e : TypeId) (ho : o.op = .call { callee := .builtin .append, args := #[s, x], argTypes := #[t, t] }) (ht : P.underlying t = some (.slice e))
    (z : Value) (size bytes : Nat) (hinfo : (P.info? e).map (fun i => (i.zero, i.size, i.bytes)) = some (some z, size, bytes)) (hz : z.cells.size = size) (hsz : 0 < size) (hby : bytes ≤ 1000)
    (v : Value) (n : Nat) (vs : List Value) (hs : a.eval s = v) (hown : W.ownsRow 0 e size v n vs) (B : Nat) (us : List Value) (hB : W.heap[B]? = some (.cells us.toArray e (0, 0))) (hx : a.eval x = .slice (some ⟨B, 0, none⟩) 1 1) (hus : us.length = size) (hu : ∀ u ∈ us, u.oneCell' = true) (hn : n ≤ 1000)
    (h : ∀ g cap w', w'.ownsRow 0 e size (.slice (some ⟨g, 0, none⟩) (n + 1) cap) (n + 1) (vs ++ us) → Kp (fun k => v.ownBlock = some k) W w' → (v.ownBlock = some g ∨ W.heap.size ≤ g) → g < w'.heap.size → K (a.put o.dst (.slice (some ⟨g, 0, none⟩) (n + 1) cap)) w') :
    if Region.wanted o (yielded ops a.tmps) = true then Oper.wp P o a W K Q else E := by
  obtain ⟨i, hi, hi0, hi1, hi2⟩ := info_parts hinfo
  refine step_append_lies W hgd s x t ho 0 e i z size bytes ht hi hi0 hi1 hi2 hz hsz v n vs hs hown ⟨B, 0, none⟩ 1 1 us hx (by omega) (fun j u hj => World.news_of_block hB j u (by simpa using hj)) hu (by omega) (by unfold maxLen; omega) ?_ (Nat.zero_le _) _ rfl ?_
  · calc (n + 1) * bytes ≤ 1001 * 1000 := Nat.mul_le_mul (by omega) hby
      _ ≤ 140737488355328 := by omega
  · intro g cap w' h1 h2 h3 h4
    refine h g cap w' h1 ((Kp.refl _ _).grown h2 (fun k e _ => e)) ?_ h4
    rcases h3 with h3 | h3
    · exact .inl h3
    · exact .inr (by omega)
end

theorem OV.snoc {w : World} {t g cap : Nat} {xs : List Nat} {x : Nat} (h : w.ownsRow 0 t 1 (.slice (some ⟨g, 0, none⟩) (xs.length + 1) cap) (xs.length + 1) (i32s xs ++ [.int .i32 (x : Int)])) : Own w t g (xs.length + 1) cap (xs ++ [x]) := by
  have e : i32s (xs ++ [x]) = i32s xs ++ [.int .i32 (x : Int)] := by simp [i32s]
  unfold Own
  rw [e]
  exact h
theorem heap_new_at (w : World) (c : Array Value) (t : TypeId) {B : Nat} (h : w.heap.size = B) : (w.alloc (.cells c t)).heap[B]? = some (.cells c t (0, 0)) := by rw [← h]; exact heap_alloc_new w _
theorem heap_new (w : World) (c : Array Value) (t : TypeId) : (w.alloc (.cells c t)).heap[w.heap.size]? = some (.cells c t (0, 0)) := heap_alloc_new w _

end Go.Proofs.Ybulkctjg
