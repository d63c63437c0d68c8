import Derived.Test.YbulkctisSearch
import Derived.Deep.RegionWith
import Derived.Deep.RegionLaw
namespace Go.Proofs.Ybulkctis
open Go.RowKit
set_option linter.unusedVariables false
set_option linter.unusedSimpArgs false

/-- of what was there, block b alone may have turned -/
structure OnlyAt (b : Nat) (w w' : World) : Prop where
  os : w'.os = w.os
  tape : w'.tape = w.tape
  output : w'.output = w.output
  size : w.heap.size ≤ w'.heap.size
  block : ∀ k, k < w.heap.size → k ≠ b → w'.heap[k]? = w.heap[k]?
theorem OnlyAt.refl (b : Nat) (w : World) : OnlyAt b w w := ⟨rfl, rfl, rfl, Nat.le_refl _, fun _ _ _ => rfl⟩
theorem OnlyAt.trans {b : Nat} {u v w : World} (h : OnlyAt b u v) (k : OnlyAt b v w) : OnlyAt b u w :=
  ⟨k.os.trans h.os, k.tape.trans h.tape, k.output.trans h.output, Nat.le_trans h.size k.size, fun i hi hb => (k.block i (Nat.lt_of_lt_of_le hi h.size) hb).trans (h.block i hi hb)⟩
theorem OnlyAt.drew {b : Nat} {u w : World} (h : OnlyAt b u w) : OnlyAt b u w.drew := ⟨h.os, h.tape, h.output, h.size, h.block⟩
theorem OnlyAt.drewN {b : Nat} {u w : World} (h : OnlyAt b u w) (n : Nat) : OnlyAt b u (w.drewN n) := ⟨h.os, h.tape, h.output, h.size, h.block⟩
theorem OnlyAt.setCell {b : Nat} {u w : World} (h : OnlyAt b u w) (i : Nat) (x : Value) : OnlyAt b u (w.setCell ⟨b, i, none⟩ x) :=
  h.trans ⟨rfl, rfl, rfl, by simp [World.setCell], fun k _ hk => heap_setCell_other w ⟨b, i, none⟩ k x hk⟩
theorem OnlyAt.setRow {b : Nat} {u w : World} (h : OnlyAt b u w) (cs : Array Value) : OnlyAt b u (w.setRow b cs) :=
  h.trans ⟨rfl, rfl, rfl, by simp, fun k _ hk => setRow_other w b k cs hk⟩
theorem OnlyAt.cell {b : Nat} {w w' : World} (h : OnlyAt b w w') {a : Addr} {v : Value} (hne : a.block ≠ b) (hc : w.cell? a = some v) : w'.cell? a = some v := by
  rw [World.cell?_of_block (w := w) (h.block a.block (World.block_lt_of_cell? _ _ hc) hne)]
  exact hc

/-- the window block -/
def Win (w : World) (wb : Nat) (v : Int) (q : Nat) : Prop := w.heap[wb]? = some (.cells #[.int .u64 v, .int .i64 (q : Int)] 41 (0, 0))
theorem Win.c0 {w : World} {wb : Nat} {v : Int} {q : Nat} (h : Win w wb v q) : w.cell? ⟨wb, 0, none⟩ = some (.int .u64 v) := by rw [cell_of_row w wb 0 _ _ _ h]; rfl
theorem Win.c1 {w : World} {wb : Nat} {v : Int} {q : Nat} (h : Win w wb v q) : w.cell? ⟨wb, 1, none⟩ = some (.int .i64 (q : Int)) := by rw [cell_of_row w wb 1 _ _ _ h]; rfl
theorem Win.fz {w : World} {wb : Nat} {v : Int} {q : Nat} (h : Win w wb v q) (i : Nat) : w.frozen? ⟨wb, i, none⟩ = false := frozen_of_row w wb i _ _ h
theorem Win.set0 {w : World} {wb : Nat} {v : Int} {q : Nat} (h : Win w wb v q) (v' : Int) : Win (w.setCell ⟨wb, 0, none⟩ (.int .u64 v')) wb v' q := by
  have := heap_setCell_same w wb 0 _ 41 (.int .u64 v') h
  exact this
theorem Win.set1 {w : World} {wb : Nat} {v : Int} {q : Nat} (h : Win w wb v q) (q' : Nat) : Win (w.setCell ⟨wb, 1, none⟩ (.int .i64 (q' : Int))) wb v q' := by
  have := heap_setCell_same w wb 1 _ 41 (.int .i64 (q' : Int)) h
  exact this

set_option maxHeartbeats 400000 in
theorem next_walk (wb : Nat) (v c : Int) (w : World) (hv : w.cell? ⟨wb, 0, none⟩ = some (.int .u64 v)) (hz : w.frozen? ⟨wb, 0, none⟩ = false) :
    Calls Yba.prog 15 #[.pointer (some ⟨wb, 0, none⟩), .int .u8 c] w fun e w' => ∃ v' hv', e = .returned (.int .u64 hv') ∧ w' = w.setCell ⟨wb, 0, none⟩ (.int .u64 v') := by
  go_enter Yba.func15, Yba.ntmps15
  go_wp2
  go_ret
  exact ⟨_, _, rfl, rfl⟩

/-- what fill leaves -/
def FillPost (wb len : Nat) (w : World) (e : Ending) (w' : World) : Prop :=
  ∃ (i q' : Nat) (v2 : Int), i ≤ len ∧ q' ≤ 63 ∧ e = .returned (.int .i64 (i : Int)) ∧ Win w' wb v2 q' ∧ OnlyAt wb w w'

set_option maxHeartbeats 800000 in
theorem fill_walk (wb : Nat) (v : Int) (q : Nat) (a : Option Addr) (len cap : Nat) (c : Nat → Int) (w : World) (hw : Win w wb v q) (hq : q ≤ 63) (hl : len ≤ 4096)
    (hp : len = 0 ∨ ∃ pb po, a = some ⟨pb, po, none⟩ ∧ pb ≠ wb ∧ ∀ j, j < len → w.cell? ⟨pb, po + j, none⟩ = some (.int .u8 (c j))) :
    Calls Yba.prog 14 #[.pointer (some ⟨wb, 0, none⟩), .slice a len cap] w fun e w' => FillPost wb len w e w' := by
  have HW := hide hw
  have HP := hide hp
  clear hw hp
  go_enter Yba.func14, Yba.ntmps14
  go_wp2
  go_loopw [5] (fun i wr => ∃ (k q2 : Nat) (v2 : Int), k ≤ len ∧ q2 ≤ 63 ∧ i = .int .i64 k ∧ Hid (Win wr wb v2 q2 ∧ OnlyAt wb w wr)) (fun i _ => len - (intOf i).toNat)
  case atStart => exact ⟨0, q, v, by omega, hq, rfl, hide ⟨HW.out, OnlyAt.refl _ _⟩⟩
  case round =>
    obtain ⟨k, q2, v2, hk, hq2, rfl, HK⟩ := hrel
    have c0 := HK.out.1.c0
    have c1 := HK.out.1.c1
    have z0 := HK.out.1.fz 0
    have z1 := HK.out.1.fz 1
    by_cases hc : q2 < 63
    · have hc' : (q2 : Int) < 63 := by omega
      by_cases hlt : k < len
      · have hlt' : (k : Int) < (len : Int) := by omega
        rcases HP.out with h0 | ⟨pb, po, rfl, hne, hcell⟩
        · omega
        have cp := HK.out.2.cell (a := ⟨pb, po + k, none⟩) hne (hcell k hlt)
        clear hcell
        go_wp2
        go_region
        all_goals (try go_wp2)
        all_goals
          go_roundw
          case rel => exact ⟨k + 1, q2 + 1, _, by omega, by omega, by go_num, hide ⟨(HK.out.1.set0 _).set1 (q2 + 1), ((HK.out.2.setCell 0 _).setCell 1 _).drew⟩⟩
          case measure => simp [intOf]; omega
      · have hlt' : ¬ (k : Int) < (len : Int) := by omega
        go_wp2
        go_ret
        exact ⟨k, q2, v2, hk, hq2, rfl, HK.out.1, HK.out.2⟩
    · have hc' : ¬ (q2 : Int) < 63 := by omega
      go_wp2
      go_ret
      exact ⟨k, q2, v2, hk, hq2, rfl, HK.out.1, HK.out.2⟩
end Go.Proofs.Ybulkctis
