import Derived.Test.YbulkctjgLeaf
namespace Go.Proofs.Ybulkctjg
open Go.RowKit
set_option linter.unusedVariables false

def cmpR (d : D) (x y : Nat) : Int := orI (cmpI (d.pos y) (d.pos x)) (cmpI (d.ctr y) (d.ctr x))

theorem cmpR_neg (d : D) (x y : Nat) : decide (cmpR d x y < 0) = newer d x y := by
  unfold cmpR newer orI cmpI
  by_cases h1 : d.pos x = d.pos y
  · simp only [h1, if_true, Int.lt_irrefl, if_false]
    by_cases h2 : d.ctr y < d.ctr x
    · rw [if_pos (by omega)]; simp [h2]
    · rw [if_neg (by omega)]
      split <;> simp <;> omega
  · by_cases h2 : d.pos y < d.pos x
    · rw [if_pos (by omega : ((d.pos y : Int) < (d.pos x : Int)))]
      simp [h1, h2]
    · rw [if_neg (by omega : ¬ ((d.pos y : Int) < (d.pos x : Int))), if_pos (by omega : ((d.pos x : Int) < (d.pos y : Int)))]
      simp [h1]; omega

theorem cell_alloc_drew (w : World) (c : Array Value) (t : TypeId) (i : Nat) : (w.alloc (.cells c t)).drew.cell? ⟨w.heap.size, i, none⟩ = c[i]? := by
  show (w.alloc (.cells c t)).cell? ⟨w.heap.size, i, none⟩ = c[i]?
  unfold World.cell?
  rw [heap_alloc_new]
  rfl

set_option maxHeartbeats 1000000 in
theorem compareRuns_walk (d : D) (b : Bk) (S G x y : Nat) (w : World) (hok : d.Ok) (hs : Stat d b (view S w)) (hG0 : w.cell? ⟨G, 0, none⟩ = some (.pointer (some ⟨b.L, 0, none⟩))) (hG1 : w.cell? ⟨G, 1, none⟩ = some (.slice (some ⟨b.pB, 0, none⟩) d.nV b.cP))
    (hx : x < d.nV) (hy : y < d.nV) (hx2 : d.nM ≤ d.node x) (hy2 : d.nM ≤ d.node y) :
    Calls Yba.prog 36 #[.pointer (some ⟨G, 0, none⟩), .int .i32 x, .int .i32 y] w fun e w' => e = .returned (.int .i64 (cmpR d x y)) ∧ Kp (fun _ => False) w w' := by
  have c1 := view_cell (hs.pos x hx)
  have c2 := view_cell (hs.pos y hy)
  have c3 := view_cell (hs.l3 (by omega))
  obtain ⟨r1, r2, _⟩ := hs.run x hx hx2
  obtain ⟨r3, r4, _⟩ := hs.run y hy hy2
  have c4 := view_cell r1
  have c5 := view_cell r2
  have c6 := view_cell r3
  have c7 := view_cell r4
  clear r1 r2 r3 r4 hs
  have hx' : (x : Int) < (d.nV : Int) := by omega
  have hy' : (y : Int) < (d.nV : Int) := by omega
  go_enter Yba.func36, Yba.ntmps36
  go_wp2
  go_region_held3 (fun w' => w'.cell? ⟨G, 0, none⟩ = some (.pointer (some ⟨b.L, 0, none⟩)) ∧ w'.cell? ⟨G, 1, none⟩ = some (.slice (some ⟨b.pB, 0, none⟩) d.nV b.cP) ∧
      w'.cell? ⟨b.pB, x, none⟩ = some (.int .i64 ((d.pos x : Nat) : Int)) ∧ w'.cell? ⟨b.pB, y, none⟩ = some (.int .i64 ((d.pos y : Nat) : Int)) ∧
      w'.cell? ⟨b.L, 3, none⟩ = some (.slice (some ⟨b.vB, 0, none⟩) d.nV b.cV) ∧
      w'.cell? ⟨b.vB, x * 5 + 3, none⟩ = some (.pointer (some ⟨b.rp x, 0, none⟩)) ∧ w'.cell? ⟨b.rp x, 1, none⟩ = some (.int .i64 ((d.ctr x : Nat) : Int)) ∧
      w'.cell? ⟨b.vB, y * 5 + 3, none⟩ = some (.pointer (some ⟨b.rp y, 0, none⟩)) ∧ w'.cell? ⟨b.rp y, 1, none⟩ = some (.int .i64 ((d.ctr y : Nat) : Int))) (go_keep)
    (first
      | (go_at_call 56; refine (compare_walk _ _ _).mono ?_; rintro e w' ⟨rfl, rfl⟩)
      | (go_at_call 55; refine (or_walk _ (cmpI ((d.pos y : Nat) : Int) ((d.pos x : Nat) : Int)) (cmpI ((d.ctr y : Nat) : Int) ((d.ctr x : Nat) : Int)) _ (cell_alloc_drew _ _ _ 0) (cell_alloc_drew _ _ _ 1)).mono ?_; rintro e w' ⟨rfl, rfl⟩))
  all_goals (go_wp2; go_ret)
  all_goals exact ⟨rfl, ((Kp.refl _ w).alloc _).drew⟩
end Go.Proofs.Ybulkctjg
