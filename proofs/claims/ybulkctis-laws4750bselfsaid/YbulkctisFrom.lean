import Derived.Test.YbulkctisModel
import Derived.Laws.CopyOwn
import Derived.Laws.Tables
import Derived.Laws.Rows
import Derived.OwnWalk
namespace Go.Proofs.Ybulkctis
open Go.RowKit
set_option linter.unusedVariables false

def zeros17 : Array Value := #[.int .u64 0, .int .u64 0, .int .u64 0, .int .u64 0, .int .u64 0, .int .u64 0, .int .u64 0, .int .u64 0, .int .u64 0, .int .u64 0, .int .u64 0, .int .u64 0, .int .u64 0, .int .u64 0, .int .u64 0, .int .u64 0, .int .i64 0]

theorem fcells_eq {cs : Array Value} {h : Nat → Int} {n : Int} (hs : cs.size = 17) (h0 : ∀ i, i < 16 → cs[i]? = some (.int .u64 (h i))) (h1 : cs[16]? = some (.int .i64 n)) : cs = fcells h n := by
  apply Array.ext_getElem?
  intro i
  by_cases hi : i < 16
  · rw [h0 i hi, fcells_at h n i hi]
  · by_cases h16 : i = 16
    · subst h16; rw [h1]; rfl
    · rw [Array.getElem?_eq_none (by omega), Array.getElem?_eq_none (by show 17 ≤ i; omega)]

theorem zeros17_at (i : Nat) (hi : i < 16) : zeros17[i]? = some (.int .u64 0) := by
  have h : zeros17 = fcells (fun _ => 0) 0 := rfl
  rw [h]; exact fcells_at _ _ i hi

theorem size26 (h : Nat → Int) (n : Int) : (Yba.prog.info? 26).map (·.size) = some (fcells h n).size := by
  show _ = some 17
  kernel_rfl
theorem one17 (h : Nat → Int) (n : Int) : (fcells h n).all (·.oneCell') = true := by simp [fcells, Value.oneCell']
/-- the row behind FeaturesFrom's copy and store -/
theorem row_made (X : List Value) (H : Nat → Int) (n : Nat) (hn : n ≤ 16) (hX : X = (List.range n).map (fun j => Value.int .u64 (H j))) :
    (splice zeros17.toList 0 X).toArray.setIfInBounds 16 (.int .i64 n) = fcells (fun j => if j < n then H j else 0) n := by
  have hl : X.length = n := by rw [hX]; simp
  have hz : zeros17.toList.length = 17 := rfl
  have hsp : (splice zeros17.toList 0 X).length = 17 := by rw [length_splice _ _ _ (by omega)]; rfl
  apply fcells_eq
  · simp [hsp]
  · intro i hi
    rw [Array.getElem?_setIfInBounds, if_neg (by omega)]
    simp only [List.getElem?_toArray]
    unfold splice
    rw [List.take_zero, List.nil_append]
    by_cases hin : i < n
    · rw [List.getElem?_append_left (by omega), hX, List.getElem?_map, List.getElem?_range hin, if_pos hin]
      rfl
    · rw [List.getElem?_append_right (by omega), List.getElem?_drop, if_neg hin, hl, show 0 + n + (i - n) = i by omega]
      have := zeros17_at i hi
      rw [← this]; simp
  · rw [Array.getElem?_setIfInBounds_self_of_lt]
    simp [hsp]

set_option maxHeartbeats 800000 in
theorem from_walk (g0 n : Nat) (H : Nat → Int) (w : World) (hn : n ≤ 16) (hc : ∀ j, j < n → w.cell? ⟨g0, j, none⟩ = some (.int .u64 (H j))) (hs : ∀ j, j + 1 < n → H j < H (j + 1)) :
    Calls Yba.prog 10 #[.slice (some ⟨g0, 0, none⟩) n 16] w fun e w' => e = .returned (.tuple #[.agg (fcells (fun j => if j < n then H j else 0) n), .bool true]) ∧ Below w.heap.size w w' := by
  have HC := hide hc
  have HS := hide hs
  clear hc hs
  have hn' : ¬ (16 : Int) < (n : Int) := by omega
  go_enter Yba.func10, Yba.ntmps10
  go_wp2
  go_loopw [5] (fun i wr => ∃ q : Nat, q + 1 ≤ 16 ∧ i = .int .i64 ((q : Int) + 1) ∧ Hid (wr.heap[w.heap.size]? = some (.cells zeros17 26 (0, 0)) ∧ wr.heap[w.heap.size + 1]? = some (.cells zeros17 26 (0, 0)) ∧ Below w.heap.size w wr)) (fun i _ => 16 - (intOf i).toNat)
  case atStart =>
    exact ⟨0, by omega, rfl, hide ⟨heap_alloc2_old _ _ _, heap_alloc2_new _ _ _, ((Below.refl _ _).alloc (Nat.le_refl _) _).alloc (by simp) _⟩⟩
  case round =>
    obtain ⟨q, k3, rfl, HK⟩ := hrel
    by_cases hlt : q + 1 < n
    · have hlt' : (q : Int) + 1 < (n : Int) := by omega
      have c0 := cell_later HK.out.2.2 (HC.out (q + 1) hlt)
      have c1 := cell_later HK.out.2.2 (HC.out q (by omega))
      have hlt2 := HS.out q (by omega)
      have hle : ¬ H (q + 1) ≤ H q := by omega
      go_wp2
      go_quiet (fail)
      go_wp2
      go_roundw
      case rel => exact ⟨q + 1, by omega, by go_num, hide ⟨HK.out.1, HK.out.2.1, below_drewN HK.out.2.2 _⟩⟩
      case measure => simp [intOf]; omega
    · obtain ⟨X, hX⟩ : ∃ X, X = (List.range n).map (fun j => Value.int .u64 (H j)) := ⟨_, rfl⟩
      have HX := hide hX
      have hXl : X.length = n := by rw [hX]; simp
      have hX1 : ∀ v ∈ X, v.oneCell' = true := by
        intro v hv
        rw [hX] at hv
        obtain ⟨j, _, rfl⟩ := List.mem_map.1 hv
        rfl
      have HXL := hide hXl
      have HX1 := hide hX1
      clear hX hXl hX1
      have HN := hide (show X.length = Nat.min n 16 by rw [HXL.out]; exact (Nat.min_eq_left hn).symm)
      have HF := hide (show 0 + X.length ≤ zeros17.toList.length by rw [HXL.out]; show 0 + n ≤ 17; omega)
      have HP : Hid (0 < X.length → some (⟨w.heap.size + 1, 0, none⟩ : Addr) = some ⟨w.heap.size + 1, 0, none⟩ ∧ ∃ ad, some (⟨g0, 0, none⟩ : Addr) = some ad ∧ ∀ j v, X[j]? = some v → wr.cell? (ad.add j) = some v) := by
        intro _
        refine ⟨rfl, _, rfl, fun j v hv => ?_⟩
        rw [HX.out, List.getElem?_map, Option.map_eq_some_iff] at hv
        obtain ⟨j', hj', rfl⟩ := hv
        obtain ⟨hjn, rfl⟩ := List.getElem?_eq_some_iff.1 hj'
        simp at hjn
        rw [Go.WideShapes.add_plain]
        simp only [List.getElem_range, Nat.zero_add]
        exact cell_later HK.out.2.2 (HC.out j hjn)
      go_wp2_with (refine wpList_copy_splice (by rfl) (.tmp 28) (.tmp 29) 34 34 (by rfl) 23 Yba.underlying34 (by kernel_rfl) (some ⟨w.heap.size + 1, 0, none⟩) (some ⟨g0, 0, none⟩) 16 16 n 16 (by rfl) (by rfl) (w.heap.size + 1) 0 zeros17.toList 26 (by simpa using HK.out.2.1) X HN.out HP.out HF.out HX1.out (w.heap.size + 1) wr (Below.refl _ _) (Nat.le_refl _) ?_)
      intro w2 HG2 hB2
      have hsz : (splice zeros17.toList 0 X).length = 17 := by rw [length_splice _ _ _ (by rw [HXL.out]; show 0 + n ≤ 17; omega)]; rfl
      have hR2 : w2.heap[w.heap.size]? = some (.cells zeros17 26 (0, 0)) := by rw [hB2.block _ (by omega)]; exact HK.out.1
      have z2 := frozen_of_row w2 (w.heap.size + 1) 16 _ _ HG2.out
      obtain ⟨v2, c2⟩ : ∃ v, w2.cell? ⟨w.heap.size + 1, 16, none⟩ = some v := by
        rw [cell_of_row w2 _ 16 _ _ _ HG2.out]
        exact ⟨_, Array.getElem?_eq_getElem (by simp [hsz])⟩
      have hW3 := heap_setCell_same w2 (w.heap.size + 1) 16 _ 26 (.int .i64 (n : Int)) HG2.out
      rw [row_made X H n hn HX.out] at hW3
      have hR3 : (w2.setCell ⟨w.heap.size + 1, 16, none⟩ (.int .i64 (n : Int))).heap[w.heap.size]? = some (.cells zeros17 26 (0, 0)) := by
        rw [heap_setCell_other _ _ _ _ (by show w.heap.size ≠ w.heap.size + 1; omega)]; exact hR2
      have bel2 : Below w.heap.size w w2 := HK.out.2.2.trans (hB2.mono (by omega))
      have H3 := hide hW3
      have HR3 := hide hR3
      have HB2 := hide bel2
      have hxl := HXL.out
      clear hW3 hR3 bel2 hB2 hR2 hsz
      go_wp2_with (first | refine wpList_load_row (by rfl) 26 (.tmp 4) (by rfl) (w.heap.size + 1) (by rfl) 26 (fcells (fun j => if j < n then H j else 0) n) (0, 0) _ H3.out Yba.underlying26 (by rfl) (size26 _ _) ?_ | refine wpList_store_row (by rfl) 26 (.tmp 2) (.tmp 32) (by rfl) w.heap.size (fcells (fun j => if j < n then H j else 0) n) (by rfl) (by rfl) 26 zeros17 HR3.out (size26 _ _) (by rfl) (one17 _ _) ?_)
      have hfin := setRow_heap _ w.heap.size zeros17 (fcells (fun j => if j < n then H j else 0) n) 26 (0, 0) HR3.out
      refine bodyPost_ret (v := .tuple #[.agg (fcells (fun j => if j < n then H j else 0) n), .bool true]) ?_ rfl ⟨rfl, ?_⟩
      · have hl := run_loadVar_row (P := Yba.prog) _ w.heap.size 26 26 _ (0, 0) _ hfin Yba.underlying26 rfl (size26 _ _)
        simp [results, Yba.results10, asAddr, hl]
      · exact below_setRow (HB2.out.setCell (by simp) _) (Nat.le_refl _) _
end Go.Proofs.Ybulkctis
