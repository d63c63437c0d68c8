import Derived.Test.YbulkctkiPermute
namespace Go.Proofs.Ybulkctki
open Go.RowKit
set_option linter.unusedVariables false

/-- what lies in the base's block -/
theorem base_cells (b m : Nat) (w : World) :
    (w.alloc (.cells (baseCells b m) 32)).cell? ⟨w.heap.size, 0, none⟩ = some (.int .u64 b) ∧
    (w.alloc (.cells (baseCells b m) 32)).cell? ⟨w.heap.size, 3, none⟩ = some (.int .u64 ((2 ^ m - 1 : Nat) : Int)) ∧
    (w.alloc (.cells (baseCells b m) 32)).cell? ⟨w.heap.size, 4, none⟩ = some (.int .u64 (((m + 1) / 2 : Nat) : Int)) := by
  have h : (w.alloc (.cells (baseCells b m) 32)).heap[w.heap.size]? = some (.cells (baseCells b m) 32) := by
    show (w.heap.push _)[_]? = _
    simp
  refine ⟨?_, ?_, ?_⟩ <;> unfold World.cell? <;> rw [h] <;> rfl

set_option maxHeartbeats 800000 in
theorem small_walk (braw araw key : Nat) (w : World) (h0 : braw < 65536) (h1 : araw < 18446744073709551616) (h2 : key < 65536) :
    Calls Yba.prog 4 #[.int .u16 braw, .int .u64 araw, .int .u16 key] w fun e w' => e = .returned (.bool true) ∧ Below w.heap.size w w' := by
  obtain ⟨b, hbdef⟩ : ∃ b : Nat, braw % 2048 + 1 = b := ⟨_, rfl⟩
  have hb1 : 1 ≤ b := by omega
  have hb2 : b ≤ 2048 := by omega
  obtain ⟨m, hm, hm2, hm3⟩ := len_facts b hb1 hb2
  have e1 : ((braw : Int) % 2048 + 1) = (b : Int) := by omega
  have HM := hide hm
  have HM3 := hide hm3
  clear hm hm3 hbdef
  go_enter Yba.func4, Yba.ntmps4
  go_wp2_with fail
  refine (base_walk b m w hb1 hb2 HM.out hm2).mono ?_
  rintro e w1 ⟨rfl, rfl⟩
  obtain ⟨hc0, hc3, hc4⟩ := base_cells b m w
  have bel : Below w.heap.size w (w.alloc (.cells (baseCells b m) 32)) := (Below.refl _ _).alloc (Nat.le_refl _) _
  generalize w.alloc (.cells (baseCells b m) 32) = w1 at *
  have BEL := hide bel
  clear bel
  obtain ⟨s, hs⟩ : ∃ s, (m + 1) / 2 = s := ⟨_, rfl⟩
  rw [hs] at hc4
  have hs1 : s ≤ 6 := by omega
  have hs2 : m = 0 ∨ 0 < s := by omega
  have hs3 : m ≤ s + s := by omega
  have hp : 2 ^ m ≤ 2 ^ 11 := Nat.pow_le_pow_right (by omega) hm2
  have hq : 1 ≤ 2 ^ m := Nat.one_le_two_pow
  obtain ⟨o, ho⟩ : ∃ o : Nat, 2 ^ m = o + 1 := ⟨2 ^ m - 1, by omega⟩
  have HO := hide ho
  have hob : o < 2048 := by omega
  obtain ⟨a, ha⟩ : ∃ a : Nat, araw % b = a := ⟨_, rfl⟩
  have hab : a < b := by rw [← ha]; exact Nat.mod_lt _ (by omega)
  have e2 : (araw : Int) % (b : Int) = (a : Int) := by rw [← ha]; rfl
  have e2' : (araw : Int).tmod (b : Int) = (a : Int) := by rw [← ha]; exact Int.ofNat_tmod _ _ |>.symm
  have e3 := and_ones key m o ho (by omega) hob
  obtain ⟨k, hk⟩ : ∃ k : Nat, key % 2 ^ m = k := ⟨_, rfl⟩
  rw [hk] at e3
  have hkl : k < 2 ^ m := by rw [← hk]; exact Nat.mod_lt _ hq
  have hk2 : k < 2048 := by omega
  have e4 := u64_xor_nat a k (by omega) (by omega)
  obtain ⟨x, hx⟩ : ∃ x : Nat, a ^^^ k = x := ⟨_, rfl⟩
  rw [hx] at e4
  have hb3 := HM3.out
  have hal : a < 2 ^ m := by omega
  have hxl : x < 2 ^ m := by rw [← hx]; exact Nat.xor_lt_two_pow hal hkl
  have hx2 : x < 2048 := by omega
  have t1 : Plain.turn (Plain.mix m s key) 1 a = x := by
    show Plain.mix m s key a = x
    rw [Plain.mix_small m s key a (by omega) hs3 hal, hk, hx]
  have t2 : Plain.turn (Plain.mix m s key) 2 a = a := by
    show Plain.mix m s key (Plain.turn (Plain.mix m s key) 1 a) = a
    rw [t1, Plain.mix_small m s key x (by omega) hs3 hxl, hk, ← hx, Nat.xor_assoc, Nat.xor_self, Nat.xor_zero]
  have HS := hide hs2
  have HC0 := hide hc0
  have HC3 := hide hc3
  have HC4 := hide hc4
  rw [show 2 ^ m - 1 = o by omega] at hc3
  by_cases hlt : x < b
  · have CW := hide (permute_walk w.heap.size b m s key a 0 w1 hm2 hs1 hb3 (by omega) hab HC0.out HC3.out HC4.out (by rw [t1]; exact hlt) (fun j hj => by omega))
    have T1 := hide t1
    clear t1 t2 hs hs2 hs3 hp hq ho ha hk hx hb3 hal hxl hkl hc0 hc4
    have hlt' : ¬ ((b : Int) ≤ (x : Int)) := by omega
    go_wp2_with fail
    refine CW.out.mono ?_
    rintro e w2 ⟨rfl, rfl⟩
    rw [T1.out]
    go_wp2
    go_ret
    exact ⟨rfl, BEL.out⟩
  · have CW := hide (permute_walk w.heap.size b m s key a 1 w1 hm2 hs1 hb3 (by omega) hab HC0.out HC3.out HC4.out (by rw [t2]; exact hab) (fun j hj => by
      have hj0 : j = 0 := by omega
      rw [hj0, t1]; omega))
    have T2 := hide t2
    clear t1 t2 hs hs2 hs3 hp hq ho ha hk hx hb3 hal hxl hkl hc0 hc4
    have hlt' : (b : Int) ≤ (x : Int) := by omega
    go_wp2_with fail
    refine CW.out.mono ?_
    rintro e w2 ⟨rfl, rfl⟩
    rw [T2.out]
    go_wp2
    go_ret
    exact ⟨rfl, BEL.out⟩
end Go.Proofs.Ybulkctki
