import Derived.Test.YbulkctkiRows
import Derived.Test.YbulkctkiPlain
import Derived.Test.YbulkctkiShelf
import Derived.WalkKit
import Derived.WalkSpells
import Derived.Below
import Derived.WalkSmall
import Derived.WalkLawsBesides
import Derived.Laws.BitsAllLaws
import Derived.Deep.LoopGhost
import Derived.Lib.ItoaNum
namespace Go.Proofs.Ybulkctki
open Go.RowKit
set_option linter.unusedVariables false

theorem hide {p : Prop} (h : p) : Hid p := h
theorem Hid.out {p : Prop} (h : Hid p) : p := h

/-- the bits of b - 1 -/
theorem len_facts (b : Nat) (h1 : 1 ≤ b) (h2 : b ≤ 2048) : ∃ m : Nat, Lib.bitLen (b - 1) = m ∧ m ≤ 11 ∧ b ≤ 2 ^ m := by
  refine ⟨_, rfl, Lib.bitLen_le _ 11 (by omega) (by omega), ?_⟩
  by_cases h0 : b = 1
  · subst h0; decide
  · have := (Lib.bitLenAux_bounds 64 (b - 1) (by omega) (by omega)).2.2
    have e : Lib.bitLen (b - 1) = Lib.bitLenAux 64 (b - 1) := rfl
    rw [e]; omega

/-- a base's block -/
def baseCells (b m : Nat) : Array Value := #[.int .u64 b, .int .i64 0, .slice none 0 0, .int .u64 ((2 ^ m - 1 : Nat) : Int), .int .u64 (((m + 1) / 2 : Nat) : Int), .int .u64 0]

set_option maxHeartbeats 800000 in
theorem base_walk (b m : Nat) (w : World) (h1 : 1 ≤ b) (h2 : b ≤ 2048) (hm : Lib.bitLen (b - 1) = m) (hm2 : m ≤ 11) :
    Calls Yba.prog 5 #[.int .u64 b] w fun e w' => e = .returned (.pointer (some ⟨w.heap.size, 0, none⟩)) ∧ w' = w.alloc (.cells (baseCells b m) 32) := by
  have HM := hide hm
  clear hm
  have hp : 2 ^ m ≤ 2 ^ 11 := Nat.pow_le_pow_right (by omega) hm2
  have hq : 1 ≤ 2 ^ m := Nat.one_le_two_pow
  obtain ⟨o, ho⟩ : ∃ o : Nat, 2 ^ m = o + 1 := ⟨2 ^ m - 1, by omega⟩
  have HO := hide ho
  have hob : o < 2048 := by omega
  have e1 : IntKind.u64.wrap ((b : Int) - 1) = ((b - 1 : Nat) : Int) := by rw [IntWalk.u64_in _ (by omega)]; omega
  have e2 : IntKind.u64.wrap ((2 : Int) ^ m) = ((o + 1 : Nat) : Int) := by
    rw [show ((2 : Int) ^ m) = ((2 ^ m : Nat) : Int) by simp, ho]
    exact IntWalk.u64_in _ (by omega)
  clear ho hp hq
  go_enter Yba.func5, Yba.ntmps5
  go_wp2_with fail
  rename_i K hK
  refine (Yba.bits_Len64 ((b - 1 : Nat) : Int) w (by omega) (by omega)).mono ?_
  rintro e w1 ⟨rfl, rfl⟩
  rw [Int.toNat_natCast, HM.out]
  go_wp2
  refine bodyPost_ret (v := .pointer (some ⟨w1.heap.size, 0, none⟩)) ?_ rfl ⟨rfl, ?_⟩
  · simp [results, Yba.results5, asAddr]
  have e3 : 2 ^ m - 1 = o := by rw [HO.out]; omega
  unfold baseCells
  rw [e3]
  have e4 : (((m + 1) / 2 : Nat) : Int) = ((m : Int) + 1) / 2 := by omega
  rw [e4]

theorem and_ones (x m o : Nat) (h : 2 ^ m = o + 1) (hx : x < 18446744073709551616) (ho : o < 2048) : bits BinOp.and IntKind.u64 (x : Int) (o : Int) = ((x % 2 ^ m : Nat) : Int) := by
  rw [u64_and_nat x o hx (by omega), show o = 2 ^ m - 1 by omega, Nat.and_two_pow_sub_one_eq_mod]

set_option maxHeartbeats 800000 in
theorem permute_walk (g b m s key a K : Nat) (w : World) (hm : m ≤ 11) (hs : s ≤ 6) (hb : b ≤ 2 ^ m) (hk : key < 18446744073709551616) (ha : a < b)
    (hc0 : w.cell? ⟨g, 0, none⟩ = some (.int .u64 b)) (hc3 : w.cell? ⟨g, 3, none⟩ = some (.int .u64 ((2 ^ m - 1 : Nat) : Int))) (hc4 : w.cell? ⟨g, 4, none⟩ = some (.int .u64 s))
    (hK : Plain.turn (Plain.mix m s key) (K + 1) a < b) (hK2 : ∀ j, j < K → b ≤ Plain.turn (Plain.mix m s key) (j + 1) a) :
    Calls Yba.prog 6 #[.pointer (some ⟨g, 0, none⟩), .int .u64 a, .int .u64 key] w fun e w' => e = .returned (.int .u64 (Plain.turn (Plain.mix m s key) (K + 1) a : Nat)) ∧ w' = w := by
  have hp : 2 ^ m ≤ 2 ^ 11 := Nat.pow_le_pow_right (by omega) hm
  have hq : 1 ≤ 2 ^ m := Nat.one_le_two_pow
  obtain ⟨o, ho⟩ : ∃ o : Nat, 2 ^ m = o + 1 := ⟨2 ^ m - 1, by omega⟩
  rw [show 2 ^ m - 1 = o by omega] at hc3
  have hob : o < 2048 := by omega
  have hbb : b ≤ 2048 := by omega
  obtain ⟨T, hT⟩ : ∃ T : Nat → Nat, ∀ j, Plain.turn (Plain.mix m s key) j a = T j := ⟨_, fun _ => rfl⟩
  have hT0 : T 0 = a := (hT 0).symm
  have hTs : ∀ j, T (j + 1) = Plain.mix m s key (T j) := fun j => by rw [← hT, ← hT]; rfl
  have hTl : ∀ j, T j < 2 ^ m := fun j => by
    cases j with
    | zero => omega
    | succ j => rw [hTs]; exact Plain.mix_lt _ _ _ _
  simp only [hT] at hK hK2 ⊢
  have HO := hide ho
  have HH := hide hb
  have HK := hide hK
  have HK2 := hide hK2
  have HTs := hide hTs
  have HTl := hide hTl
  have HT0 := hide hT0
  clear hT hT0 hTs hTl hK hK2 ho hp hq hb
  go_enter Yba.func6, Yba.ntmps6
  go_wp2
  go_loopg [1] K (fun k v wr => wr = w ∧ ∃ j : Nat, Hid (j + k = K) ∧ v = .int .u64 (T j : Nat))
  case atStart => exact ⟨rfl, 0, hide (by omega), by rw [HT0.out]⟩
  case round =>
    obtain ⟨rfl, j, HJ, rfl⟩ := hrel
    obtain ⟨x, hx⟩ : ∃ x, T j = x := ⟨_, rfl⟩
    have hxl : x < 2 ^ m := by rw [← hx]; exact HTl.out j
    have hx2 : x < 2048 := by have := HO.out; omega
    have hnext := HTs.out j
    rw [hx] at hnext ⊢
    have hp : 0 < 2 ^ m := Nat.two_pow_pos m
    have f1 := u64_xor_nat x key (by omega) hk
    obtain ⟨y1, hy1⟩ : ∃ y, x ^^^ key = y := ⟨_, rfl⟩
    have hy1l : y1 < 18446744073709551616 := by rw [← hy1]; exact Nat.xor_lt_two_pow (n := 64) (by omega) hk
    rw [hy1] at f1
    have f2 := and_ones y1 m o HO.out hy1l hob
    obtain ⟨a1, ha1⟩ : ∃ y, y1 % 2 ^ m = y := ⟨_, rfl⟩
    have ha1l : a1 < 2 ^ m := by rw [← ha1]; exact Nat.mod_lt _ hp
    rw [ha1] at f2
    have f3 := u64_or_nat (key / 65536) 1 (by omega) (by omega)
    obtain ⟨c1, hc1⟩ : ∃ y, key / 65536 ||| 1 = y := ⟨_, rfl⟩
    rw [hc1] at f3
    have f4 : IntKind.u64.wrap ((a1 : Int) * (c1 : Int)) = ((a1 * c1 % 18446744073709551616 : Nat) : Int) := by rw [IntKind.wrap_u64]; omega
    have f5 := and_ones (a1 * c1 % 18446744073709551616) m o HO.out (by omega) hob
    obtain ⟨z1, hz1⟩ : ∃ y, a1 * c1 % 18446744073709551616 = y := ⟨_, rfl⟩
    rw [hz1] at f4 f5
    have hmod : ∀ n : Nat, n % 18446744073709551616 % 2 ^ m = n % 2 ^ m := fun n =>
      Nat.mod_mod_of_dvd n (show 2 ^ m ∣ 2 ^ 64 from Nat.pow_dvd_pow 2 (by omega))
    obtain ⟨a2, ha2⟩ : ∃ y, z1 % 2 ^ m = y := ⟨_, rfl⟩
    have ha2l : a2 < 2 ^ m := by rw [← ha2]; exact Nat.mod_lt _ hp
    rw [ha2] at f5
    have f6 := u64_xor_nat a2 (a2 / 2 ^ s) (by have := HO.out; omega) (by have := HO.out; have := Nat.div_le_self a2 (2 ^ s); omega)
    obtain ⟨a3, ha3⟩ : ∃ y, a2 ^^^ a2 / 2 ^ s = y := ⟨_, rfl⟩
    have ha3l : a3 < 2 ^ m := by rw [← ha3]; exact Plain.xorshift_lt m s a2 ha2l
    rw [ha3] at f6
    have f7 := u64_or_nat (key / 4294967296) 1 (by omega) (by omega)
    obtain ⟨c2, hc2⟩ : ∃ y, key / 4294967296 ||| 1 = y := ⟨_, rfl⟩
    rw [hc2] at f7
    have f8 : IntKind.u64.wrap ((a3 : Int) * (c2 : Int)) = ((a3 * c2 % 18446744073709551616 : Nat) : Int) := by rw [IntKind.wrap_u64]; omega
    have f9 := and_ones (a3 * c2 % 18446744073709551616) m o HO.out (by omega) hob
    obtain ⟨z2, hz2⟩ : ∃ y, a3 * c2 % 18446744073709551616 = y := ⟨_, rfl⟩
    rw [hz2] at f8 f9
    obtain ⟨a4, ha4⟩ : ∃ y, z2 % 2 ^ m = y := ⟨_, rfl⟩
    have ha4l : a4 < 2 ^ m := by rw [← ha4]; exact Nat.mod_lt _ hp
    rw [ha4] at f9
    have f10 := u64_xor_nat a4 (a4 / 2 ^ s) (by have := HO.out; omega) (by have := HO.out; have := Nat.div_le_self a4 (2 ^ s); omega)
    obtain ⟨a5, ha5⟩ : ∃ y, a4 ^^^ a4 / 2 ^ s = y := ⟨_, rfl⟩
    have ha5l : a5 < 2 ^ m := by rw [← ha5]; exact Plain.xorshift_lt m s a4 ha4l
    rw [ha5] at f10
    have f11 := u64_xor_nat a5 (key / 281474976710656) (by have := HO.out; omega) (by omega)
    obtain ⟨y5, hy5⟩ : ∃ y, a5 ^^^ key / 281474976710656 = y := ⟨_, rfl⟩
    have hy5l : y5 < 18446744073709551616 := by rw [← hy5]; exact Nat.xor_lt_two_pow (n := 64) (by have := HO.out; omega) (by omega)
    rw [hy5] at f11
    have f12 := and_ones y5 m o HO.out hy5l hob
    obtain ⟨r, hr⟩ : ∃ y, y5 % 2 ^ m = y := ⟨_, rfl⟩
    rw [hr] at f12
    have hmix : Plain.mix m s key x = r := by
      unfold Plain.mix
      dsimp only
      rw [hy1, ha1, hc1, ← hmod (a1 * c1), hz1, ha2, ha3, hc2, ← hmod (a3 * c2), hz2, ha4, ha5, hy5, hr]
    rw [hmix] at hnext
    have hrl : r < 2 ^ m := by rw [← hr]; exact Nat.mod_lt _ hp
    have hr2 : r < 2048 := by have := HO.out; omega
    have ha1k : a1 < 2048 := by have := HO.out; omega
    have ha2k : a2 < 2048 := by have := HO.out; omega
    have ha3k : a3 < 2048 := by have := HO.out; omega
    have ha4k : a4 < 2048 := by have := HO.out; omega
    have ha5k : a5 < 2048 := by have := HO.out; omega
    have HN := hide hnext
    have f3 : bits BinOp.or IntKind.u64 ((key : Int) / 65536) 1 = (c1 : Int) := f3
    have f6 : bits BinOp.xor IntKind.u64 (a2 : Int) ((a2 : Int) / 2 ^ s) = (a3 : Int) := by rw [← f6]; simp
    have f7 : bits BinOp.or IntKind.u64 ((key : Int) / 4294967296) 1 = (c2 : Int) := f7
    have f10 : bits BinOp.xor IntKind.u64 (a4 : Int) ((a4 : Int) / 2 ^ s) = (a5 : Int) := by rw [← f10]; simp
    have f11 : bits BinOp.xor IntKind.u64 (a5 : Int) ((key : Int) / 281474976710656) = (y5 : Int) := f11
    clear hmix hnext hr hy5 ha5 ha4 hz2 hc2 ha3 ha2 hz1 hc1 ha1 hy1 hx hrl hxl ha1l ha2l ha3l ha4l ha5l hmod hp hy1l hy5l
    by_cases hlt : r < b
    · have hlt' : (r : Int) < (b : Int) := by omega
      go_wp2
      have heq : T (K + 1) = r := by
        have h1 := HJ.out
        by_cases hj : j < K
        · have h2 := HK2.out j hj
          rw [HN.out] at h2
          omega
        · rw [← HN.out, show K = j by omega]
      refine bodyPost_ret (v := .int .u64 (r : Int)) ?_ rfl ⟨by rw [heq], rfl⟩
      simp [results, Yba.results6, asAddr]
    · have hlt' : ¬ (r : Int) < (b : Int) := by omega
      have hj : j < K := by
        have h1 := HJ.out
        by_cases hj : j < K
        · exact hj
        · have h3 := HK.out
          rw [show K = j by omega, HN.out] at h3
          omega
      have HJ2 := hide hj
      clear hj
      go_wp2
      go_roundg (gk - 1)
      case measure => have h1 := HJ.out; have h2 := HJ2.out; omega
      case rel =>
        refine ⟨rfl, j + 1, hide ?_, ?_⟩
        · have h1 := HJ.out; have h2 := HJ2.out; omega
        · rw [HN.out]

/-- what permute answers -/
theorem permute_calls (g b m s key a : Nat) (w : World) (hm : m ≤ 11) (hs : s ≤ 6) (hms : m = 0 ∨ 0 < s) (hb : b ≤ 2 ^ m) (hk : key < 18446744073709551616) (ha : a < b)
    (hc0 : w.cell? ⟨g, 0, none⟩ = some (.int .u64 b)) (hc3 : w.cell? ⟨g, 3, none⟩ = some (.int .u64 ((2 ^ m - 1 : Nat) : Int))) (hc4 : w.cell? ⟨g, 4, none⟩ = some (.int .u64 s)) :
    ∃ K, Plain.turn (Plain.mix m s key) (K + 1) a < b ∧ (∀ j, j < K → b ≤ Plain.turn (Plain.mix m s key) (j + 1) a) ∧
      Calls Yba.prog 6 #[.pointer (some ⟨g, 0, none⟩), .int .u64 a, .int .u64 key] w fun e w' => e = .returned (.int .u64 (Plain.turn (Plain.mix m s key) (K + 1) a : Nat)) ∧ w' = w := by
  obtain ⟨K, h1, h2⟩ := Plain.first_back (f := Plain.mix m s key) (N := 2 ^ m) (fun x _ => Plain.mix_lt _ _ _ _) (fun x y hx hy e => Plain.mix_inj m s key x y hms hx hy e) hb a ha
  exact ⟨K, h1, h2, permute_walk g b m s key a K w hm hs hb hk ha hc0 hc3 hc4 h1 h2⟩
end Go.Proofs.Ybulkctki
