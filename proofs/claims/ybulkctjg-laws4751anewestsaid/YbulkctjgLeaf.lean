import Derived.Test.YbulkctjgBase
namespace Go.Proofs.Ybulkctjg
open Go.RowKit
set_option linter.unusedVariables false

theorem agree_walk (x y : Int) (w : World) : Calls Yba.prog 59 #[.int .i32 x, .int .i32 y] w fun e w' => e = .returned (.bool (decide (x = y) && decide (x ≠ -2))) ∧ w' = w := by
  by_cases h : x = y
  · subst h
    go_enter Yba.func59, Yba.ntmps59
    go_wp2
    go_ret
    simp
    rfl
  · go_enter Yba.func59, Yba.ntmps59
    go_wp2
    go_ret
    simp [h]

theorem set_walk (B n cap : Nat) (N : Nat) (s : Nat → Int) (x : Int) (w : World) (hN : n < N) (hr : w.rowIs B 48 N (fun i => .int .i32 (s i))) :
    Calls Yba.prog 40 #[.slice (some ⟨B, 0, none⟩) N cap, .int .i32 n, .int .i32 x] w fun e w' =>
      (s n = -1 ∧ e = .returned (.bool true) ∧ w' = w.setCell ⟨B, n, none⟩ (.int .i32 x)) ∨ (s n ≠ -1 ∧ e = .returned (.bool (decide (s n = x))) ∧ w' = w) := by
  have hc := hr.cell hN
  have hz := hr.frozen n
  have hn' : (n : Int) < (N : Int) := by omega
  by_cases h : s n = -1
  · rw [h] at hc
    go_enter Yba.func40, Yba.ntmps40
    go_wp2
    go_ret
    exact .inl ⟨h, rfl, rfl⟩
  · go_enter Yba.func40, Yba.ntmps40
    go_wp2
    go_ret
    refine .inr ⟨h, ?_, rfl⟩
    rfl

theorem isNaN_walk (x : Int) (w : World) : Calls Yba.prog 74 #[.int .i64 x] w fun e w' => e = .returned (.bool false) ∧ w' = w := by
  go_enter Yba.func74, Yba.ntmps74
  go_wp2
  go_ret
  simp

/-- cmp.Compare at int -/
def cmpI (x y : Int) : Int := if x < y then -1 else if y < x then 1 else 0
theorem compare_walk (x y : Int) (w : World) : Calls Yba.prog 56 #[.int .i64 x, .int .i64 y] w fun e w' => e = .returned (.int .i64 (cmpI x y)) ∧ w' = w := by
  unfold cmpI
  go_enter Yba.func56, Yba.ntmps56
  go_wp2
  all_goals (go_ret; simp [*])


/-- cmp.Or at two ints -/
def orI (x y : Int) : Int := if x = 0 then y else x
theorem or_walk (B : Nat) (x y : Int) (w : World) (h0 : w.cell? ⟨B, 0, none⟩ = some (.int .i64 x)) (h1 : w.cell? ⟨B, 1, none⟩ = some (.int .i64 y)) :
    Calls Yba.prog 55 #[.slice (some ⟨B, 0, none⟩) 2 2] w fun e w' => e = .returned (.int .i64 (orI x y)) ∧ w' = w := by
  unfold orI
  go_enter Yba.func55, Yba.ntmps55
  go_wp2
  go_loopg [8] 2 (fun k v wr => wr = w ∧ ((k = 2 ∧ v = .int .i64 0) ∨ (k = 1 ∧ v = .int .i64 1 ∧ x = 0) ∨ (k = 0 ∧ v = .int .i64 2 ∧ x = 0 ∧ y = 0)))
  case atStart => exact ⟨rfl, .inl ⟨rfl, rfl⟩⟩
  case round =>
    obtain ⟨rfl, ⟨rfl, rfl⟩ | ⟨rfl, rfl, hx⟩ | ⟨rfl, rfl, hx, hy⟩⟩ := hrel
    · by_cases hx : x = 0
      · subst hx
        go_wp2
        go_roundg 1
        case measure => omega
        case rel => simp
      · go_wp2
        go_ret
        simp
    · subst hx
      by_cases hy : y = 0
      · subst hy
        go_wp2
        go_roundg 0
        case measure => omega
        case rel => simp
      · go_wp2
        go_ret
        simp
    · subst hx
      subst hy
      go_wp2
      go_ret
      simp

theorem newer_walk (d : D) (b : Bk) (S G x y : Nat) (w : World) (hok : d.Ok) (hs : Stat d b (view S w)) (hG0 : w.cell? ⟨G, 0, none⟩ = some (.pointer (some ⟨b.L, 0, none⟩))) (hG1 : w.cell? ⟨G, 1, none⟩ = some (.slice (some ⟨b.pB, 0, none⟩) d.nV b.cP))
    (hx : x < d.nV) (hy : y < d.nV) (hx2 : d.nM ≤ d.node x) (hy2 : d.nM ≤ d.node y) :
    Calls Yba.prog 39 #[.pointer (some ⟨G, 0, none⟩), .int .i32 x, .int .i32 y] w fun e w' => e = .returned (.bool (newer d x y)) ∧ ∃ n, w' = w.drewN n := by
  have c1 := view_cell (hs.pos x hx)
  have c2 := view_cell (hs.pos y hy)
  have c3 := view_cell (hs.l3 (by omega))
  obtain ⟨r1, r2, _⟩ := hs.run x hx hx2
  obtain ⟨r3, r4, _⟩ := hs.run y hy hy2
  have c4 := view_cell r1
  have c5 := view_cell r2
  have c6 := view_cell r3
  have c7 := view_cell r4
  clear r1 r2 r3 r4 hs
  have hx' : (x : Int) < (d.nV : Int) := by omega
  have hy' : (y : Int) < (d.nV : Int) := by omega
  have b1 := hok.pos x hx
  have b2 := hok.pos y hy
  have b3 := hok.ctr x hx
  have b4 := hok.ctr y hy
  by_cases hp : d.pos x = d.pos y
  · have hn : newer d x y = decide (d.ctr y < d.ctr x) := by unfold newer; rw [if_pos hp]
    rw [hp] at c1
    go_enter Yba.func39, Yba.ntmps39
    go_wp2
    go_quiet (fail)
    go_wp2
    go_quiet (fail)
    go_wp2
    go_ret
    exact ⟨by rw [hn]; rfl, _, World.drewN_drewN _ _ _⟩
  · have hn : newer d x y = decide (d.pos y < d.pos x) := by unfold newer; rw [if_neg hp]
    have hp' : ¬ ((d.pos x : Int) = (d.pos y : Int)) := by omega
    go_enter Yba.func39, Yba.ntmps39
    go_wp2
    go_quiet (fail)
    go_wp2
    go_ret
    exact ⟨by rw [hn]; rfl, _, rfl⟩
end Go.Proofs.Ybulkctjg
