import Derived.Test.YbulkctkiSmall
import Derived.Deep.OwnRows
namespace Go.Proofs.Ybulkctki
open Go.RowKit
set_option linter.unusedVariables false

theorem base_cells_of (b m g : Nat) (w : World) (h : w.heap[g]? = some (.cells (baseCells b m) 32)) :
    w.cell? ⟨g, 0, none⟩ = some (.int .u64 b) ∧ w.cell? ⟨g, 3, none⟩ = some (.int .u64 ((2 ^ m - 1 : Nat) : Int)) ∧ w.cell? ⟨g, 4, none⟩ = some (.int .u64 (((m + 1) / 2 : Nat) : Int)) := by
  refine ⟨?_, ?_, ?_⟩ <;> unfold World.cell? <;> rw [h] <;> rfl

/-- permute as one function of the digit -/
theorem permute_fn (g b m key : Nat) (hm : m ≤ 11) (hb : b ≤ 2 ^ m) (hk : key < 18446744073709551616) :
    ∃ P : Nat → Nat, (∀ a, a < b → P a < b) ∧ (∀ x y, x < b → y < b → P x = P y → x = y) ∧
      ∀ a, a < b → ∀ w : World, w.heap[g]? = some (.cells (baseCells b m) 32) →
        Calls Yba.prog 6 #[.pointer (some ⟨g, 0, none⟩), .int .u64 a, .int .u64 key] w fun e w' => e = .returned (.int .u64 (P a : Nat)) ∧ w' = w := by
  obtain ⟨s, hs⟩ : ∃ s, (m + 1) / 2 = s := ⟨_, rfl⟩
  have hs1 : s ≤ 6 := by omega
  have hs2 : m = 0 ∨ 0 < s := by omega
  have hf : ∀ x, x < 2 ^ m → Plain.mix m s key x < 2 ^ m := fun x _ => Plain.mix_lt _ _ _ _
  have hi : ∀ x y, x < 2 ^ m → y < 2 ^ m → Plain.mix m s key x = Plain.mix m s key y → x = y := fun x y hx hy e => Plain.mix_inj m s key x y hs2 hx hy e
  have hfb : ∀ a : Nat, ∃ k, a < b → Plain.turn (Plain.mix m s key) (k + 1) a < b ∧ ∀ j, j < k → b ≤ Plain.turn (Plain.mix m s key) (j + 1) a := by
    intro a
    by_cases ha : a < b
    · obtain ⟨k, h1, h2⟩ := Plain.first_back hf hi hb a ha
      exact ⟨k, fun _ => ⟨h1, h2⟩⟩
    · exact ⟨0, fun h => absurd h ha⟩
  obtain ⟨k, hk'⟩ := Classical.axiomOfChoice hfb
  refine ⟨fun a => Plain.turn (Plain.mix m s key) (k a + 1) a, fun a ha => (hk' a ha).1, ?_, ?_⟩
  · intro x y hx hy e
    exact Plain.back_inj hf hi hb x y hx hy (k x) (k y) (hk' x hx).2 (hk' y hy).2 e
  · intro a ha w hw
    obtain ⟨c0, c3, c4⟩ := base_cells_of b m g w hw
    rw [hs] at c4
    exact permute_walk g b m s key a (k a) w hm hs1 hb hk ha c0 c3 c4 (hk' a ha).1 (hk' a ha).2

theorem info4 : (Yba.prog.info? 4).map (fun i => (i.zero, i.size, i.bytes)) = some (some (.bool false), 1, 1) := by kernel_rfl

/-- what seen holds ahead of digit k -/
def seenAt (P : Nat → Nat) (k i : Nat) : Value := .bool ((List.range k).any fun a => P a == i)

set_option maxHeartbeats 800000 in
theorem permutes_walk (braw key : Nat) (w : World) (h0 : braw < 65536) (h1 : key < 18446744073709551616) :
    Calls Yba.prog 3 #[.int .u16 braw, .int .u64 key] w fun e w' => e = .returned (.bool true) ∧ Below w.heap.size w w' := by
  obtain ⟨b, hbdef⟩ : ∃ b : Nat, braw % 2048 + 1 = b := ⟨_, rfl⟩
  have hb1 : 1 ≤ b := by omega
  have hb2 : b ≤ 2048 := by omega
  obtain ⟨m, hm, hm2, hm3⟩ := len_facts b hb1 hb2
  have e1 : ((braw : Int) % 2048 + 1) = (b : Int) := by omega
  obtain ⟨P, hP1, hP2, hP3⟩ := permute_fn w.heap.size b m key hm2 hm3 h1
  have HM := hide hm
  have HP1 := hide hP1
  have HP2 := hide hP2
  have HP3 := hide hP3
  clear hm hm3 hbdef hP1 hP2 hP3
  go_enter Yba.func3, Yba.ntmps3
  go_wp2_with fail
  refine (base_walk b m w hb1 hb2 HM.out hm2).mono ?_
  rintro e w1 ⟨rfl, rfl⟩
  have hblk : (w.alloc (.cells (baseCells b m) 32)).heap[w.heap.size]? = some (.cells (baseCells b m) 32) := by
    show (w.heap.push _)[_]? = _
    simp
  have bel : Below w.heap.size w (w.alloc (.cells (baseCells b m) 32)) := (Below.refl _ _).alloc (Nat.le_refl _) _
  have hsz : (w.alloc (.cells (baseCells b m) 32)).heap.size = w.heap.size + 1 := by simp
  generalize w.alloc (.cells (baseCells b m) 32) = w1 at *
  have HBL := hide hblk
  have BEL := hide bel
  clear hblk bel
  have hmk := run_make_row' (P := Yba.prog) 26 4 (.bool false) 1 Yba.underlying26 info4 rfl .u64 .u64 b (by omega) (by omega)
  go_wp2
  clear hmk
  go_loopw [8] (fun i wr => ∃ k : Nat, k ≤ b ∧ i = .int .u64 k ∧ Hid (wr.heap[w.heap.size]? = some (.cells (baseCells b m) 32) ∧ Below w.heap.size w wr ∧ wr.rowIs (w.heap.size + 1) 4 b (seenAt P k))) (fun i _ => b - (intOf i).toNat)
  case atStart =>
    refine ⟨0, by omega, rfl, hide ⟨?_, BEL.out.alloc (by omega) _, ?_⟩⟩
    · rw [Deep.blk_alloc_lt _ _ _ (by omega)]; exact HBL.out
    · rw [← hsz]; exact World.rowIs_made w1 (.bool false) b 4
  case round =>
    obtain ⟨k, hk, rfl, HK⟩ := hrel
    by_cases hlt : k < b
    · have hlt' : (k : Int) < (b : Int) := by omega
      have CW := hide (HP3.out k hlt wr HK.out.1)
      go_wp2_with fail
      refine CW.out.mono ?_
      rintro e w2 ⟨rfl, rfl⟩
      obtain ⟨p, hp⟩ : ∃ p, P k = p := ⟨_, rfl⟩
      rw [hp]
      have hpb : p < b := by rw [← hp]; exact HP1.out k hlt
      have hpb' : (p : Int) < (b : Int) := by omega
      have hcell : w2.cell? ⟨w.heap.size + 1, p, none⟩ = some (.bool false) := by
        rw [HK.out.2.2.cell hpb]
        have : ((List.range k).any fun a => P a == p) = false := by
          rw [List.any_eq_false]
          intro a ha
          have hak := List.mem_range.1 ha
          simp only [beq_iff_eq]
          intro e
          have := HP2.out a k (by omega) hlt (by rw [e, hp])
          omega
        unfold seenAt
        rw [this]
      have hfz := HK.out.2.2.frozen p
      have HPE := hide hp
      clear hp
      have hnl : ¬ ((b : Int) ≤ (p : Int)) := by omega
      go_wp2
      go_roundw
      case rel =>
        refine ⟨k + 1, by omega, by go_num, hide ⟨?_, HK.out.2.1.setCell (by simp) _, ?_⟩⟩
        · rw [Deep.blk_setCell_other _ _ _ _ (by show w.heap.size ≠ w.heap.size + 1; omega)]; exact HK.out.1
        · refine (HK.out.2.2.set p _).congr ?_
          intro i hi
          unfold seenAt
          rw [List.range_succ, List.any_append]
          simp only [List.any_cons, List.any_nil, Bool.or_false, HPE.out]
          by_cases e : i = p
          · subst e; simp
          · rw [if_neg e, beq_false_of_ne (fun h => e h.symm), Bool.or_false]
      case measure => simp [intOf]; omega
    · have hnk : ¬ (k : Int) < (b : Int) := by omega
      go_wp2
      go_ret
      exact ⟨rfl, HK.out.2.1⟩
end Go.Proofs.Ybulkctki
