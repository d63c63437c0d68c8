import Derived.Test.YbulkctisShared
import Derived.Test.YbulkctisPlain
namespace Go.Proofs.Ybulkctis
open Go.RowKit
set_option linter.unusedVariables false

theorem hide {p : Prop} (h : p) : Hid p := h

theorem bit_and (x k : Nat) (hx : x < 65536) : bits BinOp.and IntKind.u16 ((x : Int) / 2 ^ k) 1 = if x.testBit k then 1 else 0 := by
  have e : ((x : Int) / 2 ^ k) = ((x / 2 ^ k : Nat) : Int) := by simp
  have hd : x / 2 ^ k < 65536 := Nat.lt_of_le_of_lt (Nat.div_le_self _ _) hx
  rw [e, show (1 : Int) = ((1 : Nat) : Int) by rfl, u16_and_nat _ 1 hd (by omega), nat_mask1, Nat.testBit_eq_decide_div_mod_eq]
  by_cases h : x / 2 ^ k % 2 = 1
  · simp [h]
  · have : x / 2 ^ k % 2 = 0 := by omega
    simp [this]

set_option maxHeartbeats 800000 in
theorem model_le (a b na nb : Nat) (w : World) (a1 : a < 65536) (b1 : b < 65536) (hn1 : na ≤ 16) (hn2 : nb ≤ 16) (hm : na ≤ nb) :
    Calls Yba.prog 6 #[.int .u16 a, .int .u16 b, .int .i64 na, .int .i64 nb] w fun e w' => e = .returned (.int .i64 (mo a b 16 0 na : Nat)) ∧ w' = w := by
  have ho := u16_or_nat a b a1 b1
  have ha := u16_and_nat a b a1 b1
  have lo : a ||| b < 65536 := Nat.or_lt_two_pow (n := 16) a1 b1
  have la : a &&& b < 65536 := Nat.lt_of_le_of_lt Nat.and_le_left a1
  obtain ⟨u, hu⟩ : ∃ u, a ||| b = u := ⟨_, rfl⟩
  obtain ⟨v, hv⟩ : ∃ v, a &&& b = v := ⟨_, rfl⟩
  rw [hu] at ho lo
  rw [hv] at ha la
  have HU : Hid (a ||| b = u) := hu
  have HV : Hid (a &&& b = v) := hv
  have dm : (na : Int) ≤ (nb : Int) := by omega
  have hR := mo_le a b 16 0 na
  obtain ⟨R, hR0⟩ : ∃ R, mo a b 16 0 na = R := ⟨_, rfl⟩
  rw [hR0] at hR ⊢
  have HR : Hid (mo a b 16 0 na = R) := hR0
  clear hu hv hR0
  go_enter Yba.func6, Yba.ntmps6
  go_wp2
  go_loop [12, 13, 14] (fun t s i => ∃ k : Nat, k ≤ 16 ∧ i = .int .i64 k ∧ ∃ tn sn : Nat, tn ≤ k ∧ sn ≤ k ∧ t = .int .i64 tn ∧ s = .int .i64 sn ∧ Hid (tn ≤ na ∧ sn + mo a b (16 - k) k (na - tn) = R)) (fun _ _ i => 16 - (intOf i).toNat)
  case atStart => exact ⟨0, by omega, rfl, 0, 0, by omega, by omega, rfl, rfl, hide ⟨by omega, by have := HR.out; simpa using this⟩⟩
  case round =>
    obtain ⟨k, hk, rfl, tn, sn, ht, hs, rfl, rfl, HI⟩ := hrel
    by_cases hlt : k < 16
    · have hlt' : (k : Int) < 16 := by omega
      have bu := bit_and u k lo
      have bv := bit_and v k la
      have htm := HI.out.1
      have hI := HI.out.2
      rw [show 16 - k = (16 - (k + 1)) + 1 by omega] at hI
      have HI2 := hide hI
      clear hI HI
      by_cases c1 : u.testBit k = true
      · rw [if_pos c1] at bu
        rw [← HU.out] at c1
        have C1 := hide c1
        clear c1
        by_cases c2 : tn = na
        · have q : ((tn : Int) == (na : Int)) = true := by simp; omega
          have hfin : sn = R := by
            have h := HI2.out
            rw [c2, Nat.sub_self, mo_stop C1.out] at h
            omega
          have HF := hide hfin
          clear c2 hfin bv
          go_wp2
          go_ret
          exact ⟨ret_int (by rw [HF.out]), rfl⟩
        · have q : ((tn : Int) == (na : Int)) = false := by simp; omega
          by_cases c3 : v.testBit k = true
          · rw [if_pos c3] at bv
            rw [← HV.out] at c3
            have h := HI2.out
            rw [show na - tn = (na - (tn + 1)) + 1 by omega, mo_both C1.out c3] at h
            have HN := hide h
            clear c3 h
            go_wp2
            go_round
            case rel => exact ⟨k + 1, by omega, by go_num, tn + 1, sn + 1, by omega, by omega, by go_num, by go_num, hide ⟨by omega, by have := HN.out; omega⟩⟩
            case measure => simp [intOf]; omega
          · rw [if_neg c3] at bv
            have c3' : (a &&& b).testBit k = false := by rw [HV.out]; simpa using c3
            have h := HI2.out
            rw [show na - tn = (na - (tn + 1)) + 1 by omega, mo_one C1.out c3'] at h
            have HN := hide h
            clear c3 c3' h
            go_wp2
            go_round
            case rel => exact ⟨k + 1, by omega, by go_num, tn + 1, sn, by omega, by omega, by go_num, by go_num, hide ⟨by omega, by have := HN.out; omega⟩⟩
            case measure => simp [intOf]; omega
      · rw [if_neg c1] at bu
        have c1' : (a ||| b).testBit k = false := by rw [HU.out]; simpa using c1
        have h := HI2.out
        rw [mo_zero c1'] at h
        have HN := hide h
        clear c1 c1' h bv
        go_wp2
        go_round
        case rel => exact ⟨k + 1, by omega, by go_num, tn, sn, by omega, by omega, by go_num, by go_num, hide ⟨by omega, HN.out⟩⟩
        case measure => simp [intOf]; omega
    · have hfin : sn = R := by
        have h := HI.out.2
        rw [show 16 - k = 0 by omega] at h
        simpa [mo] using h
      have HF := hide hfin
      clear hfin
      go_wp2
      go_ret
      exact ⟨ret_int (by rw [HF.out]), rfl⟩

set_option maxHeartbeats 800000 in
theorem model_gt (a b na nb : Nat) (w : World) (a1 : a < 65536) (b1 : b < 65536) (hn1 : na ≤ 16) (hn2 : nb ≤ 16) (hm : ¬ na ≤ nb) :
    Calls Yba.prog 6 #[.int .u16 a, .int .u16 b, .int .i64 na, .int .i64 nb] w fun e w' => e = .returned (.int .i64 (mo a b 16 0 nb : Nat)) ∧ w' = w := by
  have ho := u16_or_nat a b a1 b1
  have ha := u16_and_nat a b a1 b1
  have lo : a ||| b < 65536 := Nat.or_lt_two_pow (n := 16) a1 b1
  have la : a &&& b < 65536 := Nat.lt_of_le_of_lt Nat.and_le_left a1
  obtain ⟨u, hu⟩ : ∃ u, a ||| b = u := ⟨_, rfl⟩
  obtain ⟨v, hv⟩ : ∃ v, a &&& b = v := ⟨_, rfl⟩
  rw [hu] at ho lo
  rw [hv] at ha la
  have HU : Hid (a ||| b = u) := hu
  have HV : Hid (a &&& b = v) := hv
  have dm : ¬ (na : Int) ≤ (nb : Int) := by omega
  have hR := mo_le a b 16 0 nb
  obtain ⟨R, hR0⟩ : ∃ R, mo a b 16 0 nb = R := ⟨_, rfl⟩
  rw [hR0] at hR ⊢
  have HR : Hid (mo a b 16 0 nb = R) := hR0
  clear hu hv hR0
  go_enter Yba.func6, Yba.ntmps6
  go_wp2
  go_loop [12, 13, 14] (fun t s i => ∃ k : Nat, k ≤ 16 ∧ i = .int .i64 k ∧ ∃ tn sn : Nat, tn ≤ k ∧ sn ≤ k ∧ t = .int .i64 tn ∧ s = .int .i64 sn ∧ Hid (tn ≤ nb ∧ sn + mo a b (16 - k) k (nb - tn) = R)) (fun _ _ i => 16 - (intOf i).toNat)
  case atStart => exact ⟨0, by omega, rfl, 0, 0, by omega, by omega, rfl, rfl, hide ⟨by omega, by have := HR.out; simpa using this⟩⟩
  case round =>
    obtain ⟨k, hk, rfl, tn, sn, ht, hs, rfl, rfl, HI⟩ := hrel
    by_cases hlt : k < 16
    · have hlt' : (k : Int) < 16 := by omega
      have bu := bit_and u k lo
      have bv := bit_and v k la
      have htm := HI.out.1
      have hI := HI.out.2
      rw [show 16 - k = (16 - (k + 1)) + 1 by omega] at hI
      have HI2 := hide hI
      clear hI HI
      by_cases c1 : u.testBit k = true
      · rw [if_pos c1] at bu
        rw [← HU.out] at c1
        have C1 := hide c1
        clear c1
        by_cases c2 : tn = nb
        · have q : ((tn : Int) == (nb : Int)) = true := by simp; omega
          have hfin : sn = R := by
            have h := HI2.out
            rw [c2, Nat.sub_self, mo_stop C1.out] at h
            omega
          have HF := hide hfin
          clear c2 hfin bv
          go_wp2
          go_ret
          exact ⟨ret_int (by rw [HF.out]), rfl⟩
        · have q : ((tn : Int) == (nb : Int)) = false := by simp; omega
          by_cases c3 : v.testBit k = true
          · rw [if_pos c3] at bv
            rw [← HV.out] at c3
            have h := HI2.out
            rw [show nb - tn = (nb - (tn + 1)) + 1 by omega, mo_both C1.out c3] at h
            have HN := hide h
            clear c3 h
            go_wp2
            go_round
            case rel => exact ⟨k + 1, by omega, by go_num, tn + 1, sn + 1, by omega, by omega, by go_num, by go_num, hide ⟨by omega, by have := HN.out; omega⟩⟩
            case measure => simp [intOf]; omega
          · rw [if_neg c3] at bv
            have c3' : (a &&& b).testBit k = false := by rw [HV.out]; simpa using c3
            have h := HI2.out
            rw [show nb - tn = (nb - (tn + 1)) + 1 by omega, mo_one C1.out c3'] at h
            have HN := hide h
            clear c3 c3' h
            go_wp2
            go_round
            case rel => exact ⟨k + 1, by omega, by go_num, tn + 1, sn, by omega, by omega, by go_num, by go_num, hide ⟨by omega, by have := HN.out; omega⟩⟩
            case measure => simp [intOf]; omega
      · rw [if_neg c1] at bu
        have c1' : (a ||| b).testBit k = false := by rw [HU.out]; simpa using c1
        have h := HI2.out
        rw [mo_zero c1'] at h
        have HN := hide h
        clear c1 c1' h bv
        go_wp2
        go_round
        case rel => exact ⟨k + 1, by omega, by go_num, tn, sn, by omega, by omega, by go_num, by go_num, hide ⟨by omega, HN.out⟩⟩
        case measure => simp [intOf]; omega
    · have hfin : sn = R := by
        have h := HI.out.2
        rw [show 16 - k = 0 by omega] at h
        simpa [mo] using h
      have HF := hide hfin
      clear hfin
      go_wp2
      go_ret
      exact ⟨ret_int (by rw [HF.out]), rfl⟩

theorem model_any (a b na nb : Nat) (w : World) (a1 : a < 65536) (b1 : b < 65536) (hn1 : na ≤ 16) (hn2 : nb ≤ 16) :
    Calls Yba.prog 6 #[.int .u16 a, .int .u16 b, .int .i64 na, .int .i64 nb] w fun e w' => e = .returned (.int .i64 (mo a b 16 0 (min na nb) : Nat)) ∧ w' = w := by
  by_cases h : na ≤ nb
  · rw [Nat.min_eq_left h]; exact model_le a b na nb w a1 b1 hn1 hn2 h
  · rw [Nat.min_eq_right (by omega)]; exact model_gt a b na nb w a1 b1 hn1 hn2 h
end Go.Proofs.Ybulkctis
