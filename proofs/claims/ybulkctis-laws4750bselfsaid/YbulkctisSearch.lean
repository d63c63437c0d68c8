import Derived.Test.YbulkctisLaw
namespace Go.Proofs.Ybulkctis
open Go.RowKit
set_option linter.unusedVariables false
set_option linter.unusedSimpArgs false

theorem isnan (x : Int) (w : World) : Calls Yba.prog 20 #[.int .u64 x] w fun e w' => e = .returned (.bool false) ∧ w' = w := by
  go_enter Yba.func20, Yba.ntmps20
  go_wp2
  go_ret
  exact ⟨by simp, rfl⟩
theorem isnan2 (x : Int) (w : World) : Calls Yba.prog 19 #[.int .u64 x] w fun e w' => e = .returned (.bool false) ∧ w' = w := by
  go_enter Yba.func19, Yba.ntmps19
  go_wp2
  go_ret
  exact ⟨by simp, rfl⟩
theorem less (x y : Int) (w : World) : Calls Yba.prog 18 #[.int .u64 x, .int .u64 y] w fun e w' => e = .returned (.bool (decide (x < y))) ∧ w' = w := by
  go_enter Yba.func18, Yba.ntmps18
  go_wp2_with fail
  refine (isnan x _).mono ?_
  rintro e w' ⟨rfl, rfl⟩
  go_wp2_with fail
  go_ret
  exact ⟨by simp, rfl⟩

/-- where the binary search ends -/
def bsI (h : Nat → Int) (t : Int) : Nat → Nat → Nat → Nat
  | 0, i, _ => i
  | f + 1, i, j => if i < j then (if h ((i + j) / 2) < t then bsI h t f ((i + j) / 2 + 1) j else bsI h t f i ((i + j) / 2)) else i
theorem bsI_le (h : Nat → Int) (t : Int) (f i j : Nat) (hij : i ≤ j) : i ≤ bsI h t f i j ∧ bsI h t f i j ≤ j := by
  induction f generalizing i j with
  | zero => exact ⟨Nat.le_refl _, hij⟩
  | succ f ih =>
    unfold bsI
    split
    · split
      · have := ih ((i + j) / 2 + 1) j (by omega); omega
      · have := ih i ((i + j) / 2) (by omega); omega
    · omega
/-- it ends at the end only behind a last one that is less -/
theorem bsI_last (h : Nat → Int) (t : Int) (f i j : Nat) (hij : i ≤ j) (he : bsI h t f i j = j) (hf : j - i ≤ f) : i = j ∨ h (j - 1) < t := by
  induction f generalizing i j with
  | zero => left; omega
  | succ f ih =>
    unfold bsI at he
    split at he
    · split at he
      · rename_i h1 h2
        have := ih ((i + j) / 2 + 1) j (by omega) he (by omega)
        rcases this with e | e
        · right
          rw [show j - 1 = (i + j) / 2 by omega]; exact h2
        · exact .inr e
      · have := (bsI_le h t f i ((i + j) / 2) (by omega)).2
        omega
    · left; omega

theorem bsI_fuel (h : Nat → Int) (t : Int) (f f' i j : Nat) (h1 : j - i ≤ f) (h2 : j - i ≤ f') : bsI h t f i j = bsI h t f' i j := by
  induction f generalizing f' i j with
  | zero => rw [bsI]; symm; cases f' with
    | zero => rfl
    | succ f' => rw [bsI, if_neg (by omega)]
  | succ f ih =>
    by_cases hij : i < j
    · cases f' with
      | zero => omega
      | succ f' =>
        rw [bsI, bsI, if_pos hij, if_pos hij]
        split
        · exact ih _ _ _ (by omega) (by omega)
        · exact ih _ _ _ (by omega) (by omega)
    · rw [bsI, if_neg hij]; symm; cases f' with
      | zero => rfl
      | succ f' => rw [bsI, if_neg hij]
theorem bsI_step_lt {h : Nat → Int} {t : Int} {f i j : Nat} (hij : i < j) (hl : h ((i + j) / 2) < t) : bsI h t (f + 1) i j = bsI h t f ((i + j) / 2 + 1) j := by rw [bsI, if_pos hij, if_pos hl]
theorem bsI_step_ge {h : Nat → Int} {t : Int} {f i j : Nat} (hij : i < j) (hl : ¬ h ((i + j) / 2) < t) : bsI h t (f + 1) i j = bsI h t f i ((i + j) / 2) := by rw [bsI, if_pos hij, if_neg hl]
theorem bsI_end {h : Nat → Int} {t : Int} {f i j : Nat} (hij : ¬ i < j) : bsI h t f i j = i := by
  cases f with
  | zero => rfl
  | succ f => rw [bsI, if_neg hij]

set_option maxHeartbeats 800000 in
theorem bs_walk (g n cap : Nat) (h : Nat → Int) (t : Int) (w : World) (hn : n ≤ 16) (hc : ∀ j, j < n → w.cell? ⟨g, j, none⟩ = some (.int .u64 (h j))) :
    Calls Yba.prog 17 #[.slice (some ⟨g, 0, none⟩) n cap, .int .u64 t] w fun e w' => e = .returned (.tuple #[.int .i64 (bsI h t n 0 n : Nat), .bool (decide (bsI h t n 0 n < n) && (h (bsI h t n 0 n) == t))]) ∧ w' = w := by
  have HC := hide hc
  clear hc
  obtain ⟨R, hR⟩ : ∃ R, bsI h t n 0 n = R := ⟨_, rfl⟩
  have hRn := (bsI_le h t n 0 n (Nat.zero_le _)).2
  rw [hR] at hRn ⊢
  have HR := hide hR
  clear hR
  go_enter Yba.func17, Yba.ntmps17
  go_wp2
  go_loop [7, 8, 9] (fun i j _ => ∃ ii jj : Nat, ii ≤ jj ∧ jj ≤ n ∧ i = .int .i64 ii ∧ j = .int .i64 jj ∧ Hid (bsI h t (jj - ii) ii jj = R)) (fun i j _ => (intOf j).toNat - (intOf i).toNat)
  case atStart => exact ⟨0, n, by omega, by omega, rfl, rfl, by simpa using HR⟩
  case round =>
    obtain ⟨ii, jj, h1, h2, rfl, rfl, HK⟩ := hrel
    by_cases hlt : ii < jj
    · have hlt' : (ii : Int) < (jj : Int) := by omega
      have cm := HC.out ((ii + jj) / 2) (by omega)
      have hK := HK.out
      rw [show jj - ii = (jj - ii - 1) + 1 by omega] at hK
      by_cases hl : h ((ii + jj) / 2) < t
      · rw [bsI_step_lt hlt hl] at hK
        have hb := bsI_le h t (jj - ((ii + jj) / 2 + 1)) ((ii + jj) / 2 + 1) jj (by omega)
        have hK2 : bsI h t (jj - ((ii + jj) / 2 + 1)) ((ii + jj) / 2 + 1) jj = R := by
          rw [← hK]; exact bsI_fuel h t _ _ _ _ (by omega) (by omega)
        have HK2 := hide hK2
        have HL := hide hl
        clear hK hK2 hb hl
        go_wp2_with fail
        refine (less _ _ _).mono ?_
        rintro e w' ⟨rfl, rfl⟩
        have hd : decide (h ((ii + jj) / 2) < t) = true := decide_eq_true (by have := HL.out; omega)
        go_wp2_with fail
        go_round
        case rel => exact ⟨(ii + jj) / 2 + 1, jj, by omega, by omega, by go_num, rfl, HK2⟩
        case measure => simp [intOf]; omega
      · rw [bsI_step_ge hlt hl] at hK
        have hK2 : bsI h t ((ii + jj) / 2 - ii) ii ((ii + jj) / 2) = R := by
          rw [← hK]; exact bsI_fuel h t _ _ _ _ (by omega) (by omega)
        have HK2 := hide hK2
        have HL := hide hl
        clear hK hK2 hl
        go_wp2_with fail
        refine (less _ _ _).mono ?_
        rintro e w' ⟨rfl, rfl⟩
        have hd : decide (h ((ii + jj) / 2) < t) = false := decide_eq_false (by have := HL.out; omega)
        go_wp2_with fail
        go_round
        case rel => exact ⟨ii, (ii + jj) / 2, by omega, by omega, rfl, by go_num, HK2⟩
        case measure => simp [intOf]; omega
    · have hnl : ¬ (ii : Int) < (jj : Int) := by omega
      obtain rfl : ii = R := by have h := HK.out; rw [bsI_end hlt] at h; exact h
      by_cases hr : ii < n
      · have hr' : (ii : Int) < (n : Int) := by omega
        have cm := HC.out ii hr
        by_cases hq : h ii = t
        · have hq' : (h ii == t) = true := by simpa using hq
          have hd : decide (ii < n) = true := by simpa using hr
          clear hq
          go_wp2_with fail
          go_ret2
          exact ⟨by simp [hr, hq'], rfl⟩
        · have hq' : (h ii == t) = false := by simpa using hq
          clear hq
          go_wp2_with fail
          refine (isnan2 _ _).mono ?_
          rintro e w' ⟨rfl, rfl⟩
          go_wp2_with fail
          go_ret2
          exact ⟨by simp [hq'], rfl⟩
      · have hr' : ¬ (ii : Int) < (n : Int) := by omega
        go_wp2_with fail
        go_ret2
        exact ⟨by simp [hr], rfl⟩
end Go.Proofs.Ybulkctis
