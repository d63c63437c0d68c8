import Derived.Test.YbulkctisFrom
import Derived.Laws.OwnMore
namespace Go.Proofs.Ybulkctis
open Go.RowKit
set_option linter.unusedVariables false

theorem bitsFrom_snoc (a f k : Nat) : bitsFrom a (f + 1) k = bitsFrom a f k ++ (if a.testBit (k + f) then [k + f] else []) := by
  induction f generalizing k with
  | zero => simp [bitsFrom]
  | succ f ih =>
    rw [bitsFrom, ih (k + 1), bitsFrom, show k + 1 + f = k + (f + 1) by omega]
    split <;> simp

theorem own_some {w : World} {base e size g n cap : Nat} {xs : List Value} (h : w.ownsRow base e size (.slice (some ⟨g, 0, none⟩) n cap) n xs) (j : Nat) (hj : j < n * size) : ∃ v, w.cell? ⟨g, j, none⟩ = some v := by
  rw [h.cellAt j hj]
  have := h.1
  exact ⟨xs[j], List.getElem?_eq_getElem (by omega)⟩

/-- off with its low four bits cleared -/
theorem base_of (off : Nat) (h : off < 18446744073709551616) : ∃ B : Nat, bits BinOp.andNot IntKind.u64 (off : Int) 15 = (B : Int) ∧ B % 16 = 0 ∧ B + 16 ≤ 18446744073709551616 := by
  refine ⟨off &&& (18446744073709551615 - 15), ?_, ?_, ?_⟩
  · exact u64_andNot_nat off 15 h (by omega)
  · have : (off &&& (18446744073709551615 - 15)) % 2 ^ 4 = 0 := by
      rw [Nat.and_mod_two_pow]
      simp
    simpa using this
  · have h1 : off &&& (18446744073709551615 - 15) ≤ 18446744073709551615 - 15 := Nat.and_le_right
    omega
theorem or_of (B k : Nat) (h0 : B % 16 = 0) (h1 : B + 16 ≤ 18446744073709551616) (hk : k < 16) : bits BinOp.or IntKind.u64 (B : Int) (k : Int) = ((B + k : Nat) : Int) := by
  rw [u64_or_nat B k (by omega) (by omega), nat_join 4 B k (by simpa using h0) (by omega)]

def zeros16 : Array Value := #[.int .u64 0, .int .u64 0, .int .u64 0, .int .u64 0, .int .u64 0, .int .u64 0, .int .u64 0, .int .u64 0, .int .u64 0, .int .u64 0, .int .u64 0, .int .u64 0, .int .u64 0, .int .u64 0, .int .u64 0, .int .u64 0]
/-- what mk lays -/
def mkH (mask B : Nat) (j : Nat) : Int := if j < (bitsFrom mask 16 0).length then ((B + (bitsFrom mask 16 0).getD j 0 : Nat) : Int) else 0

set_option maxHeartbeats 800000 in
theorem mk_walk (mask off B : Nat) (w : World) (hm : mask < 65536) (hB : bits BinOp.andNot IntKind.u64 (off : Int) 15 = (B : Int)) (hB0 : B % 16 = 0) (hB1 : B + 16 ≤ 18446744073709551616) :
    Calls Yba.prog 5 #[.int .u16 mask, .int .u64 off] w fun e w' => e = .returned (.tuple #[.agg (fcells (mkH mask B) ((bitsFrom mask 16 0).length : Nat)), .int .i64 ((bitsFrom mask 16 0).length : Nat), .bool true]) ∧ Below w.heap.size w w' := by
  have HB0 := hide hB0
  have HB1 := hide hB1
  clear hB0 hB1
  go_enter Yba.func5, Yba.ntmps5
  go_wp2
  go_loopw [9, 10] (fun n i wr => ∃ k nn : Nat, k ≤ 16 ∧ nn ≤ k ∧ i = .int .i64 k ∧ n = .int .i64 nn ∧ Hid (nn = (bitsFrom mask k 0).length ∧ wr.heap[w.heap.size]? = some (.cells zeros17 26 (0, 0)) ∧ Below w.heap.size w wr ∧ ∃ xs, wr.ownsRow (w.heap.size + 1) 24 1 (.slice (some ⟨w.heap.size + 1, 0, none⟩) 16 16) 16 xs ∧ xs.take nn = (bitsFrom mask k 0).map fun b => Value.int .u64 ((B + b : Nat) : Int))) (fun _ i _ => 16 - (intOf i).toNat)
  case atStart =>
    have hown : ((w.alloc (.cells zeros17 26)).alloc (.cells zeros16 24)).ownsRow (w.heap.size + 1) 24 1 (.slice (some ⟨w.heap.size + 1, 0, none⟩) 16 16) 16 zeros16.toList := by
      have := World.ownsRow_lit (base := w.heap.size + 1) (e := 24) (size := 1) (w.alloc (.cells zeros17 26)) zeros16 16 (by simp) (by unfold maxLen; omega) rfl
      simpa using this
    exact ⟨0, 0, by omega, by omega, rfl, rfl, hide ⟨rfl, heap_alloc2_old _ _ _, ((Below.refl _ _).alloc (Nat.le_refl _) _).alloc (by simp) _, zeros16.toList, hown, rfl⟩⟩
  case round =>
    obtain ⟨k, nn, hk, hnn, rfl, rfl, HK⟩ := hrel
    by_cases hlt : k < 16
    · have hlt' : (k : Int) < 16 := by omega
      have bm := bit_and mask k hm
      obtain ⟨xs, ho, hx⟩ := HK.out.2.2.2
      by_cases c1 : mask.testBit k = true
      · rw [if_pos c1] at bm
        have hor := or_of B k HB0.out HB1.out hlt
        obtain ⟨v0, cc⟩ := own_some ho nn (by omega)
        have z0 := ho.frozenAt nn
        have HO := hide ho
        have HX := hide hx
        have C1 := hide c1
        clear ho hx c1
        have hn' : (nn : Int) < 16 := by omega
        go_wp2
        go_roundw
        case rel =>
          refine ⟨k + 1, nn + 1, by omega, by omega, by go_num, by go_num, hide ⟨?_, ?_, ?_, xs.set nn _, (HO.out.stored nn _).1, ?_⟩⟩
          · rw [bitsFrom_snoc, Nat.zero_add, if_pos C1.out, List.length_append, ← HK.out.1]; rfl
          · rw [heap_setCell_other _ _ _ _ (by show w.heap.size ≠ w.heap.size + 1; omega)]; exact HK.out.2.1
          · exact HK.out.2.2.1.setCell (by simp) _
          · have hl := HO.out.1
            rw [bitsFrom_snoc, Nat.zero_add, if_pos C1.out, List.map_append, ← HX.out, List.take_add_one, List.take_set_of_le (Nat.le_refl _), List.getElem?_set_self (by omega)]
            rfl
        case measure => simp [intOf]; omega
      · rw [if_neg c1] at bm
        have C1 := hide c1
        clear c1 ho hx
        go_wp2
        go_roundw
        case rel =>
          refine ⟨k + 1, nn, by omega, by omega, by go_num, by go_num, ?_⟩
          have h := HK.out
          rw [bitsFrom_snoc, Nat.zero_add, if_neg C1.out, List.append_nil]
          exact h
        case measure => simp [intOf]; omega
    · obtain rfl : k = 16 := by omega
      have hnn' : (nn : Int) ≤ 16 := by omega
      obtain ⟨h1, h2, h3, xs, ho, hx⟩ := HK.out
      obtain ⟨L, hL⟩ : ∃ L, bitsFrom mask 16 0 = L := ⟨_, rfl⟩
      have hsort := bitsFrom_sorted mask 16 0
      have hmk : mkH mask B = fun j => if j < L.length then ((B + L.getD j 0 : Nat) : Int) else 0 := by funext j; unfold mkH; rw [hL]
      rw [hL] at h1 hx hsort
      have hcell : ∀ j, j < nn → wr.cell? ⟨w.heap.size + 1, j, none⟩ = some (.int .u64 ((B + L.getD j 0 : Nat) : Int)) := by
        intro j hj
        rw [ho.cellAt j (by omega)]
        have e : (xs.take nn)[j]? = xs[j]? := by rw [List.getElem?_take, if_pos hj]
        rw [← e, hx, List.getElem?_map, List.getElem?_eq_getElem (by omega)]
        simp [List.getD_eq_getElem?_getD, List.getElem?_eq_getElem (show j < L.length by omega)]
      have hasc : ∀ j, j + 1 < nn → ((B + L.getD j 0 : Nat) : Int) < ((B + L.getD (j + 1) 0 : Nat) : Int) := by
        intro j hj
        have := List.pairwise_iff_getElem.1 hsort j (j + 1) (by omega) (by omega) (by omega)
        simp only [List.getD_eq_getElem?_getD, List.getElem?_eq_getElem (show j < L.length by omega), List.getElem?_eq_getElem (show j + 1 < L.length by omega), Option.getD_some]
        omega
      have hlt2 : w.heap.size + 1 < wr.heap.size := (ho.lt (w.heap.size + 1) rfl).2
      have HCe := hide hcell
      have HAs := hide hasc
      have H1 := hide h1
      have H2 := hide h2
      have H3 := hide h3
      have HMK := hide hmk
      have HL := hide hL
      clear hcell hasc h1 h2 h3 ho hx hmk hsort hL HK
      go_wp2_with fail
      refine (from_walk (w.heap.size + 1) nn (fun j => ((B + L.getD j 0 : Nat) : Int)) wr (by omega) HCe.out HAs.out).mono ?_
      rintro e w1 ⟨rfl, hb1⟩
      obtain ⟨FC, hFC⟩ : ∃ FC, fcells (fun j => if j < nn then ((B + L.getD j 0 : Nat) : Int) else 0) nn = FC := ⟨_, rfl⟩
      have hsz : (Yba.prog.info? 26).map (·.size) = some FC.size := by rw [← hFC]; exact size26 _ _
      have hone : FC.all (·.oneCell') = true := by rw [← hFC]; exact one17 _ _
      have hs17 : zeros17.size = FC.size := by rw [← hFC]; rfl
      have A1 := hide (heap_alloc_new w1 (.cells zeros17 26))
      have A2 := hide (setRow_heap _ w1.heap.size zeros17 FC 26 (0, 0) A1.out)
      have A3 : Hid (((w1.alloc (.cells zeros17 26)).setRow w1.heap.size FC).heap[w.heap.size]? = some (.cells zeros17 26 (0, 0))) := by
        have hs1 := hb1.size
        show _ = _
        rw [setRow_other _ _ _ _ (by omega), Below.heap_alloc _ _ _ (by omega), hb1.block _ (by omega)]
        exact H2.out
      have bel : Hid (Below w.heap.size w ((w1.alloc (.cells zeros17 26)).setRow w1.heap.size FC)) := by
        have hs1 := hb1.size
        have b1 := H3.out.trans (hb1.mono (by omega))
        exact below_setRow (b1.alloc b1.size _) b1.size _
      have HFC := hide hFC
      have HSZ := hide hsz
      have HON := hide hone
      have HS17 := hide hs17
      rw [hFC]
      clear hFC hsz hone hs17 hb1
      go_wp2_with (first | refine wpList_store_row (by rfl) 26 (.tmp 11) (.tmp 37) (by rfl) w1.heap.size FC (by rfl) (by rfl) 26 zeros17 A1.out HSZ.out HS17.out HON.out ?_ | refine wpList_load_row (by rfl) 26 (.tmp 11) (by rfl) w1.heap.size (by rfl) 26 FC (0, 0) _ A2.out Yba.underlying26 (by rfl) HSZ.out ?_ | refine wpList_store_row (by rfl) 26 (.tmp 4) (.tmp 39) (by rfl) w.heap.size FC (by rfl) (by rfl) 26 zeros17 A3.out HSZ.out HS17.out HON.out ?_)
      have hfin := setRow_heap _ w.heap.size zeros17 FC 26 (0, 0) A3.out
      refine bodyPost_ret (v := .tuple #[.agg FC, .int .i64 nn, .bool true]) ?_ rfl ⟨?_, ?_⟩
      · have hl := run_loadVar_row (P := Yba.prog) _ w.heap.size 26 26 _ (0, 0) _ hfin Yba.underlying26 rfl HSZ.out
        unfold zeros17 at hl
        simp [results, Yba.results5, asAddr, hl]
      · rw [HL.out, HMK.out, ← HFC.out, ← H1.out]
      · exact below_setRow bel.out (Nat.le_refl _) _
end Go.Proofs.Ybulkctis
