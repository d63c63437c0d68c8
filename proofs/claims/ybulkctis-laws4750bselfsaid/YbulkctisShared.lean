import Derived.Test.YbulkctisRows
import Derived.WalkKit
import Derived.WalkSpells
import Derived.Deep.QuietTactic
import Derived.BigQuiet
import Derived.Below
import Derived.WalkSmall
import Derived.WalkLawsBesides
import Derived.Laws.BitsAllLaws
namespace Go.Proofs.Ybulkctis
open Go.RowKit
set_option linter.unusedVariables false

/-- a Features' seventeen cells -/
def fcells (h : Nat → Int) (n : Int) : Array Value := #[.int .u64 (h 0), .int .u64 (h 1), .int .u64 (h 2), .int .u64 (h 3), .int .u64 (h 4), .int .u64 (h 5), .int .u64 (h 6), .int .u64 (h 7), .int .u64 (h 8), .int .u64 (h 9), .int .u64 (h 10), .int .u64 (h 11), .int .u64 (h 12), .int .u64 (h 13), .int .u64 (h 14), .int .u64 (h 15), .int .i64 n]
/-- the block at b holds the Features of h and n -/
structure Fe (w : World) (b : Nat) (h : Nat → Int) (n : Int) : Prop where
  at_ : ∀ i, i < 16 → w.cell? ⟨b, i, none⟩ = some (.int .u64 (h i))
  cnt : w.cell? ⟨b, 16, none⟩ = some (.int .i64 n)
theorem Fe.later {w w' : World} {b : Nat} {h : Nat → Int} {n : Int} (f : Fe w b h n) (hb : Below w.heap.size w w') : Fe w' b h n :=
  ⟨fun i hi => cell_later hb (f.at_ i hi), cell_later hb f.cnt⟩
theorem fcells_at (h : Nat → Int) (n : Int) (i : Nat) (hi : i < 16) : (fcells h n)[i]? = some (.int .u64 (h i)) := by
  unfold fcells
  match i, hi with
  | 0, _ => rfl
  | 1, _ => rfl
  | 2, _ => rfl
  | 3, _ => rfl
  | 4, _ => rfl
  | 5, _ => rfl
  | 6, _ => rfl
  | 7, _ => rfl
  | 8, _ => rfl
  | 9, _ => rfl
  | 10, _ => rfl
  | 11, _ => rfl
  | 12, _ => rfl
  | 13, _ => rfl
  | 14, _ => rfl
  | 15, _ => rfl
  | n + 16, h => exact absurd h (by omega)
theorem Fe.made (w : World) (h : Nat → Int) (n : Int) : Fe (w.alloc (.cells (fcells h n) 26)) w.heap.size h n := by
  have key : ∀ i, (w.alloc (.cells (fcells h n) 26)).cell? ⟨w.heap.size, i, none⟩ = (fcells h n)[i]? := fun i => by
    rw [cell_of_row _ w.heap.size i (fcells h n) 26 (0, 0) (heap_alloc_new w _)]
  exact ⟨fun i hi => by rw [key, fcells_at h n i hi], by rw [key]; rfl⟩

/-- what Shared counts -/
def shF (hf hg : Nat → Int) (nf ng : Nat) : Nat → Nat → Nat → Nat
  | 0, _, _ => 0
  | r + 1, i, j => if i < nf ∧ j < ng then (if hf i = hg j then 1 + shF hf hg nf ng r (i + 1) (j + 1) else if hf i < hg j then shF hf hg nf ng r (i + 1) j else shF hf hg nf ng r i (j + 1)) else 0
theorem shF_le (hf hg : Nat → Int) (nf ng r i j : Nat) : shF hf hg nf ng r i j ≤ r := by
  induction r generalizing i j with
  | zero => exact Nat.le_refl _
  | succ r ih =>
    unfold shF
    have h1 := ih (i + 1) (j + 1)
    have h2 := ih (i + 1) j
    have h3 := ih i (j + 1)
    split
    · split
      · omega
      · split <;> omega
    · omega

theorem shF_eq {hf hg : Nat → Int} {nf ng r i j : Nat} (hi : i < nf) (hj : j < ng) (e : hf i = hg j) : shF hf hg nf ng (r + 1) i j = 1 + shF hf hg nf ng r (i + 1) (j + 1) := by
  rw [shF, if_pos ⟨hi, hj⟩, if_pos e]
theorem shF_lt {hf hg : Nat → Int} {nf ng r i j : Nat} (hi : i < nf) (hj : j < ng) (e : hf i < hg j) : shF hf hg nf ng (r + 1) i j = shF hf hg nf ng r (i + 1) j := by
  rw [shF, if_pos ⟨hi, hj⟩, if_neg (by omega), if_pos e]
theorem shF_gt {hf hg : Nat → Int} {nf ng r i j : Nat} (hi : i < nf) (hj : j < ng) (e : hg j < hf i) : shF hf hg nf ng (r + 1) i j = shF hf hg nf ng r i (j + 1) := by
  rw [shF, if_pos ⟨hi, hj⟩, if_neg (by omega), if_neg (by omega)]
theorem shF_end {hf hg : Nat → Int} {nf ng r i j : Nat} (h : ¬ (0 < r ∧ i < nf ∧ j < ng)) : shF hf hg nf ng r i j = 0 := by
  cases r with
  | zero => rfl
  | succ r => rw [shF, if_neg (fun k => h ⟨by omega, k⟩)]

theorem ret_int {k : IntKind} {a b : Int} (h : a = b) : Ending.returned (.int k a) = .returned (.int k b) := by rw [h]

set_option maxHeartbeats 1000000 in
theorem shared_walk (hf hg : Nat → Int) (nf ng : Nat) (w : World) (h1 : nf ≤ 16) (h2 : ng ≤ 16) :
    Calls Yba.prog 7 #[.agg (fcells hf nf), .agg (fcells hg ng)] w fun e w' => e = .returned (.int .i64 (shF hf hg nf ng (min nf ng) 0 0 : Nat)) ∧ Below w.heap.size w w' := by
  have hF1 := ((Fe.made w hf nf).later ((Below.refl _ _).alloc (Nat.le_refl _) (.cells (fcells hg ng) 26)))
  have hF2 := (Fe.made (w.alloc (.cells (fcells hf nf) 26)) hg ng)
  have hB : Below w.heap.size w ((w.alloc (.cells (fcells hf nf) 26)).alloc (.cells (fcells hg ng) 26)) := ((Below.refl _ _).alloc (Nat.le_refl _) _).alloc (by simp) _
  unfold fcells at hF1 hF2 hB ⊢
  have H1 : Hid _ := hF1
  have H2 : Hid _ := hF2
  have HB : Hid _ := hB
  clear hF1 hF2 hB
  go_enter Yba.func7, Yba.ntmps7
  go_wp2
  go_loopw [5, 6, 7, 8] (fun s i j k wr => ∃ sn in_ jn kn : Nat, s = .int .i64 sn ∧ i = .int .i64 in_ ∧ j = .int .i64 jn ∧ k = .int .i64 kn ∧ kn ≤ min nf ng ∧ in_ ≤ nf ∧ jn ≤ ng ∧ sn + shF hf hg nf ng (min nf ng - kn) in_ jn = shF hf hg nf ng (min nf ng) 0 0 ∧ Fe wr w.heap.size hf nf ∧ Fe wr (w.heap.size + 1) hg ng ∧ Below w.heap.size w wr) (fun _ _ _ k _ => min nf ng - (intOf k).toNat)
  case atStart =>
    exact ⟨0, 0, 0, 0, rfl, rfl, rfl, rfl, Nat.zero_le _, Nat.zero_le _, Nat.zero_le _, by simp, H1.out, by simpa using H2.out, HB.out⟩
  case round =>
    obtain ⟨sn, i, j, k, rfl, rfl, rfl, rfl, hk, hi, hj, hs, F1, F2, hb⟩ := hrel
    have HS : Hid (sn + shF hf hg nf ng (min nf ng - k) i j = shF hf hg nf ng (min nf ng) 0 0) := hs
    have G1 : Hid (Fe wr w.heap.size hf nf) := F1
    have G2 : Hid (Fe wr (w.heap.size + 1) hg ng) := F2
    have GB : Hid (Below w.heap.size w wr) := hb
    have hle := shF_le hf hg nf ng (min nf ng) 0 0
    have hsn : sn ≤ 16 := by omega
    have n1 := F1.cnt
    have n2 := F2.cnt
    obtain ⟨m, hm⟩ : ∃ m, min nf ng = m := ⟨_, rfl⟩
    have hm16 : m ≤ 16 := by omega
    have hmin : (min (nf : Int) (ng : Int)) = (m : Int) := by omega
    by_cases hc : k < m ∧ i < nf ∧ j < ng
    · obtain ⟨c1, c2, c3⟩ := hc
      have d1 : (k : Int) < (m : Int) := by omega
      have d2 : (i : Int) < (nf : Int) := by omega
      have d3 : (j : Int) < (ng : Int) := by omega
      have e1 := F1.at_ i (by omega)
      have e2 := F2.at_ j (by omega)
      clear F1 F2 hb hs hle
      have dm : (nf : Int) ≤ (ng : Int) ∧ (m : Int) = nf ∨ ¬ (nf : Int) ≤ (ng : Int) ∧ (m : Int) = ng := by omega
      clear hmin
      rcases Int.lt_trichotomy (hf i) (hg j) with hq | hq | hq
      · have hq1 : (hf i == hg j) = false := by simp; omega
        rcases dm with ⟨m1, m2⟩ | ⟨m1, m2⟩
        all_goals
        go_wp2
        go_quiet (fail)
        go_wp2
        go_quiet (fail)
        go_wp2
        go_roundw
        case rel => exact ⟨sn, i + 1, j, k + 1, by go_num, by go_num, by go_num, by go_num, by omega, by omega, by omega, by have hx := HS.out; rw [hm, show m - k = (m - (k + 1)) + 1 by omega, shF_lt c2 c3 hq] at hx; rw [hm]; omega, G1.out.later (below_drewN (Below.refl _ _) _), G2.out.later (below_drewN (Below.refl _ _) _), below_drewN GB.out _⟩
        case measure => simp [intOf]; omega
      · have hq1 : (hf i == hg j) = true := by simp; exact hq
        have HQ : Hid (hf i = hg j) := hq
        clear hq
        rcases dm with ⟨m1, m2⟩ | ⟨m1, m2⟩
        all_goals
        go_wp2
        go_quiet (fail)
        go_wp2
        go_roundw
        case rel => exact ⟨sn + 1, i + 1, j + 1, k + 1, by go_num, by go_num, by go_num, by go_num, by omega, by omega, by omega, by have hx := HS.out; rw [hm, show m - k = (m - (k + 1)) + 1 by omega, shF_eq c2 c3 HQ.out] at hx; rw [hm]; omega, G1.out.later (below_drewN (Below.refl _ _) _), G2.out.later (below_drewN (Below.refl _ _) _), below_drewN GB.out _⟩
        case measure => simp [intOf]; omega
      · have hq1 : (hf i == hg j) = false := by simp; omega
        have hq2 : ¬ hf i < hg j := by omega
        rcases dm with ⟨m1, m2⟩ | ⟨m1, m2⟩
        all_goals
        go_wp2
        go_quiet (fail)
        go_wp2
        go_quiet (fail)
        go_wp2
        go_roundw
        case rel => exact ⟨sn, i, j + 1, k + 1, by go_num, by go_num, by go_num, by go_num, by omega, by omega, by omega, by have hx := HS.out; rw [hm, show m - k = (m - (k + 1)) + 1 by omega, shF_gt c2 c3 hq] at hx; rw [hm]; omega, G1.out.later (below_drewN (Below.refl _ _) _), G2.out.later (below_drewN (Below.refl _ _) _), below_drewN GB.out _⟩
        case measure => simp [intOf]; omega
    · have hz := shF_end (hf := hf) (hg := hg) (nf := nf) (ng := ng) (r := m - k) (i := i) (j := j) (fun h => hc ⟨by omega, h.2⟩)
      have hR : sn = shF hf hg nf ng m 0 0 := by rw [hm, hz] at hs; omega
      have HR : Hid (sn = shF hf hg nf ng m 0 0) := hR
      have dm : (nf : Int) ≤ (ng : Int) ∧ (m : Int) = nf ∨ ¬ (nf : Int) ≤ (ng : Int) ∧ (m : Int) = ng := by omega
      have hcc : ¬ (k : Int) < (m : Int) ∨ ((k : Int) < (m : Int) ∧ ¬ (i : Int) < (nf : Int)) ∨ ((k : Int) < (m : Int) ∧ (i : Int) < (nf : Int) ∧ ¬ (j : Int) < (ng : Int)) := by omega
      clear hmin F1 F2 hb hs hle hz hR hc
      rcases dm with ⟨m1, m2⟩ | ⟨m1, m2⟩
      all_goals
      rcases hcc with hcc | ⟨hcc, hcd⟩ | ⟨hcc, hcd, hce⟩
      all_goals
      go_wp2
      go_ret
      exact ⟨ret_int (by first | rw [← HR.out] | rw [hm, ← HR.out]), GB.out⟩
end Go.Proofs.Ybulkctis
