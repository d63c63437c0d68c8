import Derived.Test.YbulkcthqFmtKinds
import Derived.Deep.AppendSrc
import Derived.OwnWalk
namespace Go.Proofs.YbulkcthqFmt
open Go.RowKit Go.Extern.Stop Go.Stop Go.Extern
set_option linter.unusedVariables false

theorem clone_nil (w : World) : Calls Ybaf.prog 6 #[.slice none 0 0] w fun e w' => e = .returned (.slice none 0 0) ∧ w' = w := by
  have hn := fun wx => Lib.run_eql_slice_nil (P := Ybaf.prog) wx 22 27 none 0 0 0 0 Ybaf.underlying22
  go_enter Ybaf.func6, Ybaf.ntmps6
  go_wp2
  go_ret
  exact ⟨rfl, rfl⟩

def dcell (A S : Nat → Int) (j : Nat) : Value := if j % 2 = 0 then .int .u32 (A (j / 2)) else .int .u32 (S (j / 2))
def dcells (A S : Nat → Int) (len : Nat) : List Value := (List.range (len * 2)).map (dcell A S)

theorem dcells_length (A S : Nat → Int) (len : Nat) : (dcells A S len).length = len * 2 := by simp [dcells]
theorem dcells_at {A S : Nat → Int} {len j : Nat} {u : Value} (h : (dcells A S len)[j]? = some u) : j < len * 2 ∧ u = dcell A S j := by
  unfold dcells at h
  rw [List.getElem?_map, Option.map_eq_some_iff] at h
  obtain ⟨k, hk, rfl⟩ := h
  rw [List.getElem?_eq_some_iff] at hk
  obtain ⟨hk, rfl⟩ := hk
  simp at hk
  simp [hk]
theorem dcells_get (A S : Nat → Int) (len j : Nat) (h : j < len * 2) : (dcells A S len)[j]? = some (dcell A S j) := by
  unfold dcells
  rw [List.getElem?_map, List.getElem?_range h]
  rfl
theorem dcells_one (A S : Nat → Int) (len : Nat) : ∀ u ∈ dcells A S len, u.oneCell' = true := by
  intro u hu
  unfold dcells at hu
  obtain ⟨j, _, rfl⟩ := List.mem_map.1 hu
  unfold dcell
  split <;> rfl

/-- a slice of directories: nil; or leading to its cells -/
def Dirs (w : World) (a : Option Addr) (len cap : Nat) (A S : Nat → Int) : Prop :=
  (a = none ∧ len = 0 ∧ cap = 0) ∨
  ∃ x, a = some x ∧ len ≤ cap ∧ cap ≤ maxLen ∧ ∀ j, j < len * 2 → w.cell? (x.add j) = some (dcell A S j)

theorem Dirs.later {w w' : World} {a : Option Addr} {len cap : Nat} {A S : Nat → Int} (h : Dirs w a len cap A S) (hb : Below w.heap.size w w') : Dirs w' a len cap A S := by
  rcases h with h | ⟨x, h1, h2, h3, h4⟩
  · exact .inl h
  · exact .inr ⟨x, h1, h2, h3, fun j hj => cell_later hb (h4 j hj)⟩
theorem Dirs.at {w : World} {a : Option Addr} {len cap : Nat} {A S : Nat → Int} (h : Dirs w a len cap A S) (hl : 0 < len) :
    ∃ b off, a = some ⟨b, off, none⟩ ∧ len ≤ cap ∧ cap ≤ maxLen ∧ ∀ j, j < len * 2 → w.cell? ⟨b, off + j, none⟩ = some (dcell A S j) := by
  rcases h with ⟨_, rfl, _⟩ | ⟨⟨b, off, spot⟩, rfl, h2, h3, h4⟩
  · omega
  · have hspot : spot = none := by simpa [Addr.add] using World.cell?_spot (h4 0 (by omega))
    subst hspot
    exact ⟨b, off, rfl, h2, h3, fun j hj => by rw [← Go.WideShapes.add_plain]; exact h4 j hj⟩

theorem info27 : (Ybaf.prog.info? 27).map (fun i => (i.zero, i.size, i.bytes)) = some (some (.agg #[.int .u32 0, .int .u32 0]), 2, 8) := by kernel_rfl

set_option maxHeartbeats 400000 in
theorem clone_empty (x : Addr) (cap : Nat) (w : World) : Calls Ybaf.prog 6 #[.slice (some x) 0 cap] w fun e w' => e = .returned (.slice (some ⟨w.heap.size, 0, none⟩) 0 0) ∧ Below w.heap.size w w' := by
  have hn := fun wx => Lib.run_eql_slice_nil (P := Ybaf.prog) wx 22 27 (some x) 0 cap 0 0 Ybaf.underlying22
  go_enter Ybaf.func6, Ybaf.ntmps6
  go_wp2
  go_ret
  exact ⟨rfl, (Below.refl _ _).alloc (Nat.le_refl _) _⟩

set_option maxHeartbeats 400000 in
theorem clone_some (b off len cap : Nat) (A S : Nat → Int) (w : World) (hl : 0 < len) (hm : len ≤ 1024)
    (hc : ∀ j, j < len * 2 → w.cell? ⟨b, off + j, none⟩ = some (dcell A S j)) :
    Calls Ybaf.prog 6 #[.slice (some ⟨b, off, none⟩) len cap] w fun e w' => ∃ a' cap', e = .returned (.slice a' len cap') ∧ Dirs w' a' len cap' A S ∧ Below w.heap.size w w' := by
  have hn := fun wx => Lib.run_eql_slice_nil (P := Ybaf.prog) wx 22 27 (some ⟨b, off, none⟩) len cap 0 0 Ybaf.underlying22
  have HC := hide hc
  clear hc
  obtain ⟨i, hi, hzz⟩ := Option.map_eq_some_iff.1 info27
  simp only [Prod.mk.injEq] at hzz
  obtain ⟨hz, hs, hb⟩ := hzz
  have HI := hide hi
  have HZ := hide hz
  have HS := hide hs
  have HB := hide hb
  clear hi hz hs hb
  go_enter Ybaf.func6, Ybaf.ntmps6
  go_wp2_with (at_builtin; refine wpList_append_grows (w.alloc (Obj.cells #[] 27)) rfl (.tmp 5) (.tmp 6) 22 rfl 27 i _ 2 8 Ybaf.underlying22 HI.out HZ.out HS.out HB.out rfl (by omega) (some ⟨w.heap.size, 0, none⟩) 0 0 [] rfl (by simp) rfl (by simp) ⟨b, off, none⟩ len cap (dcells A S len) rfl (dcells_length A S len) (fun j u hj => ?_) (dcells_one A S len) (by omega) (by unfold maxLen; omega) (by omega) ?_)
  · obtain ⟨h1, rfl⟩ := dcells_at hj
    rw [Go.WideShapes.add_plain]
    exact cell_later ((Below.refl _ _).alloc (Nat.le_refl _) _) (HC.out j h1)
  · intro v' w' ho hg
    go_wp2
    go_ret
    have bel : Below w.heap.size w w' := ((Below.refl _ _).alloc (Nat.le_refl _) (Obj.cells #[] 27)).grown hg (by simp) (fun k hk => by cases hk)
    obtain ⟨hx, h0 | ⟨g, cap', cur, rfl, hg1, hg2, hg3, hg4, hg5, hg6⟩⟩ := ho
    · omega
    · refine ⟨_, _, rfl, .inr ⟨_, rfl, hg3, hg4, fun j hj => ?_⟩, bel⟩
      have ho : w'.ownsRow (w.heap.size + 1) 27 2 (.slice (some ⟨g, 0, none⟩) len cap') len (dcells A S len) := ⟨hx, .inr ⟨g, cap', cur, rfl, hg1, hg2, hg3, hg4, hg5, hg6⟩⟩
      rw [Go.WideShapes.add_plain, Nat.zero_add, ho.cellAt j hj, dcells_get A S len j hj]

theorem dcell_even (A S : Nat → Int) (k : Nat) : dcell A S (k * 2) = .int .u32 (A k) := by
  unfold dcell
  rw [if_pos (by omega), show k * 2 / 2 = k by omega]
theorem dcell_odd (A S : Nat → Int) (k : Nat) : dcell A S (k * 2 + 1) = .int .u32 (S k) := by
  unfold dcell
  rw [if_neg (by omega), show (k * 2 + 1) / 2 = k by omega]

set_option maxHeartbeats 400000 in
theorem equal_empty (a a' : Option Addr) (cap cap' : Nat) (w : World) : Calls Ybaf.prog 10 #[.slice a 0 cap, .slice a' 0 cap'] w fun e w' => e = .returned (.bool true) ∧ ∃ n, w' = w.drewN n := by
  go_enter Ybaf.func10, Ybaf.ntmps10
  go_wp2
  refine wp_loop_rounds 1 ?_
  rw [rounds_succ]
  go_wp2
  go_ret
  exact ⟨rfl, 0, rfl⟩

set_option maxHeartbeats 400000 in
theorem equal_some (b off b' off' len cap cap' : Nat) (A S : Nat → Int) (w : World) (h1 : len ≤ cap) (h2 : cap ≤ maxLen)
    (hc : ∀ j, j < len * 2 → w.cell? ⟨b, off + j, none⟩ = some (dcell A S j)) (hc' : ∀ j, j < len * 2 → w.cell? ⟨b', off' + j, none⟩ = some (dcell A S j)) :
    Calls Ybaf.prog 10 #[.slice (some ⟨b, off, none⟩) len cap, .slice (some ⟨b', off', none⟩) len cap'] w fun e w' => e = .returned (.bool true) ∧ ∃ n, w' = w.drewN n := by
  unfold maxLen at h2
  have HC := hide hc
  have HC' := hide hc'
  clear hc hc'
  go_enter Ybaf.func10, Ybaf.ntmps10
  go_wp2
  go_loopw [5, 13] (fun _ i wr => ∃ k m : Nat, k ≤ len ∧ i = .int .i64 k ∧ wr = w.drewN m) (fun _ i _ => len - (intOf i).toNat)
  case atStart => exact ⟨0, 0, Nat.zero_le _, rfl, rfl⟩
  case round =>
    obtain ⟨k, m, hk, rfl, rfl⟩ := hrel
    by_cases hlt : k < len
    · have g0 := HC.out (k * 2) (by omega)
      have g1 := HC.out (k * 2 + 1) (by omega)
      have g2 := HC'.out (k * 2) (by omega)
      have g3 := HC'.out (k * 2 + 1) (by omega)
      rw [dcell_even] at g0 g2
      rw [dcell_odd, ← Nat.add_assoc] at g1 g3
      have hlt' : (k : Int) < (len : Int) := by omega
      have hne := fun wx => neq27_false (A k) (S k) wx
      go_wp2
      go_quiet (fail)
      go_wp2
      go_roundw
      case rel => exact ⟨k + 1, _, by omega, by go_num, rfl⟩
      case measure => simp [intOf]; omega
    · go_wp2
      go_ret
      exact ⟨rfl, _, rfl⟩

theorem equal_any (a a' : Option Addr) (len cap cap' : Nat) (A S : Nat → Int) (w : World) (h : Dirs w a len cap A S) (h' : Dirs w a' len cap' A S) :
    Calls Ybaf.prog 10 #[.slice a len cap, .slice a' len cap'] w fun e w' => e = .returned (.bool true) ∧ ∃ n, w' = w.drewN n := by
  by_cases hl : 0 < len
  · obtain ⟨b, off, rfl, h1, h2, hc⟩ := h.at hl
    obtain ⟨b', off', rfl, _, _, hc'⟩ := h'.at hl
    exact equal_some b off b' off' len cap cap' A S w h1 h2 hc hc'
  · obtain rfl : len = 0 := by omega
    exact equal_empty a a' cap cap' w
end Go.Proofs.YbulkcthqFmt
