import Derived.Test.YbulkctisMk
namespace Go.Proofs.Ybulkctis
open Go.RowKit
set_option linter.unusedVariables false

theorem drop_cons {l : List Nat} {i : Nat} (h : i < l.length) : l.drop i = l.getD i 0 :: l.drop (i + 1) := by
  rw [List.drop_eq_getElem_cons h]
  simp [List.getD_eq_getElem?_getD, List.getElem?_eq_getElem h]

theorem shF_sh (hf hg : Nat → Int) (la lb : List Nat) (B : Nat) (h1 : ∀ i, i < la.length → hf i = ((B + la.getD i 0 : Nat) : Int)) (h2 : ∀ i, i < lb.length → hg i = ((B + lb.getD i 0 : Nat) : Int)) (r i j : Nat) :
    shF hf hg la.length lb.length r i j = sh r (la.drop i) (lb.drop j) := by
  induction r generalizing i j with
  | zero => rw [shF, sh]
  | succ r ih =>
    by_cases hi : i < la.length
    · by_cases hj : j < lb.length
      · rw [shF, if_pos ⟨hi, hj⟩, h1 i hi, h2 j hj, drop_cons hi, drop_cons hj, sh, ih (i + 1) (j + 1), ih (i + 1) j, ih i (j + 1), drop_cons hi, drop_cons hj]
        by_cases e : la.getD i 0 = lb.getD j 0
        · rw [if_pos e, if_pos (by omega)]
        · rw [if_neg e, if_neg (by omega)]
          by_cases l : la.getD i 0 < lb.getD j 0
          · rw [if_pos l, if_pos (by omega)]
          · rw [if_neg l, if_neg (by omega)]
      · rw [shF_end (fun h => hj h.2.2), List.drop_eq_nil_of_le (by omega : lb.length ≤ j), sh_nil_right]
    · rw [shF_end (fun h => hi h.2.1), List.drop_eq_nil_of_le (by omega : la.length ≤ i), sh_nil_left]

theorem shared_mo (a b B : Nat) : shF (mkH a B) (mkH b B) (bitsFrom a 16 0).length (bitsFrom b 16 0).length (min (bitsFrom a 16 0).length (bitsFrom b 16 0).length) 0 0 = mo a b 16 0 (min (bitsFrom a 16 0).length (bitsFrom b 16 0).length) := by
  rw [shF_sh (mkH a B) (mkH b B) _ _ B (fun i hi => by unfold mkH; rw [if_pos hi]) (fun i hi => by unfold mkH; rw [if_pos hi]), List.drop_zero, List.drop_zero, sh_mo]

/-- a row read under a guard that says yes -/
theorem wpList_load_row_g {P : Program} {ops : Array Oper} {rest : List Oper} {o : Oper} {a : Act} {w : World} {Q : Exit → Act → World → Prop} (hw : Region.wanted o (yielded ops a.tmps) = true) (ty : TypeId) (x : Operand) (ho : o.op = .load ty x)
    (g : Nat) (hx : a.eval x = .pointer (some ⟨g, 0, none⟩)) (t : TypeId) (cs : Array Value) (fr : Nat × Nat) (d : TypeDesc) (hg : w.heap[g]? = some (.cells cs t fr))
    (hu : P.underlying ty = some d) (hd : (match d with | .struct _ | .array _ _ => true | _ => false) = true) (hi : (P.info? ty).map (·.size) = some cs.size)
    (h : wpList P ops Q rest (a.put o.dst (.agg cs)) w) : wpList P ops Q (o :: rest) a w :=
  wpList_step fun K hK => by simp only [hw, if_true]; exact wp_load_row ty x ho g hx t cs fr d hg hu hd hi (hK _ _ h)

set_option maxHeartbeats 1000000 in
theorem law_walk (a b off : Nat) (w : World) (ha : a < 65536) (hb : b < 65536) (ho : off < 18446744073709551616) :
    Calls Yba.prog 3 #[.int .u16 a, .int .u16 b, .int .u64 off] w fun e w' => e = .returned (.bool true) ∧ Below w.heap.size w w' := by
  obtain ⟨B, hB, hB0, hB1⟩ := base_of off ho
  have na := bitsFrom_length a 16 0
  have nb := bitsFrom_length b 16 0
  have HA := hide (fun wx => mk_walk a off B wx ha hB hB0 hB1)
  have HB := hide (fun wx => mk_walk b off B wx hb hB hB0 hB1)
  have HM := hide (fun wx => model_any a b (bitsFrom a 16 0).length (bitsFrom b 16 0).length wx ha hb na nb)
  have HS1 := hide (fun wx => shared_walk (mkH a B) (mkH b B) (bitsFrom a 16 0).length (bitsFrom b 16 0).length wx na nb)
  have HS2 := hide (fun wx => shared_walk (mkH b B) (mkH a B) (bitsFrom b 16 0).length (bitsFrom a 16 0).length wx nb na)
  rw [shared_mo a b B] at HS1
  rw [shared_mo b a B, mo_comm, Nat.min_comm] at HS2
  obtain ⟨FA, hFA⟩ : ∃ FA, fcells (mkH a B) ((bitsFrom a 16 0).length : Nat) = FA := ⟨_, rfl⟩
  obtain ⟨FB, hFB⟩ : ∃ FB, fcells (mkH b B) ((bitsFrom b 16 0).length : Nat) = FB := ⟨_, rfl⟩
  have szA : (Yba.prog.info? 26).map (·.size) = some FA.size := by rw [← hFA]; exact size26 _ _
  have szB : (Yba.prog.info? 26).map (·.size) = some FB.size := by rw [← hFB]; exact size26 _ _
  have oneA : FA.all (·.oneCell') = true := by rw [← hFA]; exact one17 _ _
  have oneB : FB.all (·.oneCell') = true := by rw [← hFB]; exact one17 _ _
  have zA : zeros17.size = FA.size := by rw [← hFA]; rfl
  have zB : zeros17.size = FB.size := by rw [← hFB]; rfl
  rw [hFA] at HA HS1 HS2
  rw [hFB] at HB HS1 HS2
  obtain ⟨la, hla⟩ : ∃ la, (bitsFrom a 16 0).length = la := ⟨_, rfl⟩
  obtain ⟨lb, hlb⟩ : ∃ lb, (bitsFrom b 16 0).length = lb := ⟨_, rfl⟩
  rw [hla] at HA HM HS1 HS2 na
  rw [hlb] at HB HM HS1 HS2 nb
  obtain ⟨R, hR⟩ : ∃ R, mo a b 16 0 (min la lb) = R := ⟨_, rfl⟩
  rw [hR] at HM HS1 HS2
  have SZA := hide szA
  have SZB := hide szB
  have ONA := hide oneA
  have ONB := hide oneB
  have ZA := hide zA
  have ZB := hide zB
  clear hFA hFB szA szB oneA oneB zA zB hla hlb hR hB hB0 hB1
  go_enter Yba.func3, Yba.ntmps3
  go_wp2_with fail
  refine (HA.out _).mono ?_
  rintro e w1 ⟨rfl, hb1⟩
  have A1 := hide (heap_alloc_new w1 (.cells zeros17 26))
  have A2 := hide (setRow_heap _ w1.heap.size zeros17 FA 26 (0, 0) A1.out)
  have bel1 := hide (below_setRow (hb1.alloc hb1.size (.cells zeros17 26)) hb1.size FA)
  clear hb1
  go_wp2_with (refine wpList_store_row (by rfl) 26 (.tmp 7) (.tmp 18) (by rfl) w1.heap.size FA (by rfl) (by rfl) 26 zeros17 A1.out SZA.out ZA.out ONA.out ?_)
  refine (HB.out _).mono ?_
  rintro e w2 ⟨rfl, hb2⟩
  have hw12 : w1.heap.size + 1 ≤ w2.heap.size := by have := hb2.size; simpa using this
  have A3 : w2.heap[w1.heap.size]? = some (.cells FA 26 (0, 0)) := by rw [hb2.block _ (by simp)]; exact A2.out
  have bel2 := bel1.out.trans (hb2.mono bel1.out.size)
  have B1 := hide (heap_alloc_new w2 (.cells zeros17 26))
  have B2 := hide (setRow_heap _ w2.heap.size zeros17 FB 26 (0, 0) B1.out)
  have A4 : Hid (((w2.alloc (.cells zeros17 26)).setRow w2.heap.size FB).heap[w1.heap.size]? = some (.cells FA 26 (0, 0))) := by
    show _ = _
    rw [setRow_other _ _ _ _ (by omega), Below.heap_alloc _ _ _ (by omega)]
    exact A3
  have bel3 := hide (below_setRow (bel2.alloc bel2.size (.cells zeros17 26)) bel2.size FB)
  clear hb2 A3 bel2 A1 A2 bel1
  go_wp2_with (refine wpList_store_row (by rfl) 26 (.tmp 10) (.tmp 25) (by rfl) w2.heap.size FB (by rfl) (by rfl) 26 zeros17 B1.out SZB.out ZB.out ONB.out ?_)
  refine (HM.out _).mono ?_
  rintro e w3 ⟨rfl, rfl⟩
  go_wp2_with (first | refine wpList_load_row (by rfl) 26 (.tmp 7) (by rfl) w1.heap.size (by rfl) 26 FA (0, 0) _ A4.out Yba.underlying26 (by rfl) SZA.out ?_ | refine wpList_load_row (by rfl) 26 (.tmp 10) (by rfl) w2.heap.size (by rfl) 26 FB (0, 0) _ B2.out Yba.underlying26 (by rfl) SZB.out ?_)
  refine (HS1.out _).mono ?_
  rintro e w4 ⟨rfl, hb4⟩
  have A5 : w4.heap[w1.heap.size]? = some (.cells FA 26 (0, 0)) := by rw [hb4.block _ (by simp; omega)]; exact A4.out
  have B5 : w4.heap[w2.heap.size]? = some (.cells FB 26 (0, 0)) := by rw [hb4.block _ (by simp)]; exact B2.out
  have bel4 := hide (bel3.out.trans (hb4.mono bel3.out.size))
  have HA5 := hide A5
  have HB5 := hide B5
  clear hb4 A5 B5 A4 B2 bel3
  go_wp2_with (first | refine wpList_load_row_g (by rfl) 26 (.tmp 7) (by rfl) w1.heap.size (by rfl) 26 FA (0, 0) _ HA5.out Yba.underlying26 (by rfl) SZA.out ?_ | refine wpList_load_row_g (by rfl) 26 (.tmp 10) (by rfl) w2.heap.size (by rfl) 26 FB (0, 0) _ HB5.out Yba.underlying26 (by rfl) SZB.out ?_)
  refine (HS2.out _).mono ?_
  rintro e w5 ⟨rfl, hb5⟩
  have bel5 := hide (bel4.out.trans (hb5.mono bel4.out.size))
  clear hb5
  go_wp2_with fail
  go_ret
  exact ⟨rfl, bel5.out⟩
end Go.Proofs.Ybulkctis
