import Derived.Test.YbulkctisWrite
namespace Go.Proofs.Ybulkctis
open Go.RowKit
set_option linter.unusedVariables false
set_option linter.unusedSimpArgs false

theorem run_loadVar_cells {P : Program} (w : World) (g : Nat) (ty : TypeId) (cs : Array Value) (d : TypeDesc) (hc : ∀ j v, cs.toList[j]? = some v → w.cell? ⟨g, j, none⟩ = some v)
    (hu : P.underlying ty = some d) (hd : (match d with | .struct _ | .array _ _ => true | _ => false) = true) (hi : (P.info? ty).map (·.size) = some cs.size) :
    (loadVar ty ⟨g, 0, none⟩).run P w = .ok (.agg cs) w := by
  have hl : (loadCells ⟨g, 0, none⟩ cs.toList.length).run P w = .ok cs.toList.toArray w :=
    run_loadCells_list (P := P) w ⟨g, 0, none⟩ cs.toList (fun j v hv => by
      rw [Go.WideShapes.add_plain, Nat.zero_add]
      exact hc j v hv)
  cases hq : P.info? ty with
  | none => simp [hq] at hi
  | some i =>
    have hs : i.size = cs.size := by simpa [hq] using hi
    have hagg : (isAgg ty).run P w = .ok true w := by
      unfold isAgg
      rw [Sem.run_bind, run_underlying hu w]
      cases d <;> simp_all
    simp only [Array.length_toList, Array.toArray_toList] at hl
    simp [loadVar, Sem.run_bind, hagg, sizeOf, typeInfo, hq, hs, hl]

theorem wpList_load_cells {P : Program} {ops : Array Oper} {rest : List Oper} {o : Oper} {a : Act} {w : World} {Q : Exit → Act → World → Prop} (hgd : o.guard = none) (ty : TypeId) (x : Operand) (ho : o.op = .load ty x)
    (g : Nat) (hx : a.eval x = .pointer (some ⟨g, 0, none⟩)) (cs : Array Value) (d : TypeDesc) (hc : ∀ j v, cs.toList[j]? = some v → w.cell? ⟨g, j, none⟩ = some v)
    (hu : P.underlying ty = some d) (hd : (match d with | .struct _ | .array _ _ => true | _ => false) = true) (hi : (P.info? ty).map (·.size) = some cs.size)
    (h : wpList P ops Q rest (a.put o.dst (.agg cs)) w) : wpList P ops Q (o :: rest) a w :=
  wpList_plain hgd fun _ hK => by
    unfold Oper.wp execOp
    simp only [ho, hx, Instr.loadAt, Instr.sureAddr, Sem.run_bind, Sem.run_pure, Result.andThen_ok, run_loadVar_cells w g ty cs d hc hu hd hi]
    exact hK _ _ h

theorem fcells_get {h : Nat → Int} {n : Int} {j : Nat} {v : Value} (hv : (fcells h n).toList[j]? = some v) : (j < 16 ∧ v = .int .u64 (h j)) ∨ (j = 16 ∧ v = .int .i64 n) := by
  have hv' : (fcells h n)[j]? = some v := by simpa using hv
  by_cases hj : j < 16
  · rw [fcells_at h n j hj] at hv'
    exact .inl ⟨hj, (Option.some.inj hv').symm⟩
  · by_cases h16 : j = 16
    · subst h16
      exact .inr ⟨rfl, (Option.some.inj (show some (Value.int .i64 n) = some v from hv')).symm⟩
    · rw [Array.getElem?_eq_none (by show 17 ≤ j; omega)] at hv'
      cases hv'

set_option maxHeartbeats 400000 in
theorem features_walk (b n : Nat) (cur : List Value) (w : World) (hr : Row w b cur) (ho : OkRow cur n) :
    Calls Yba.prog 12 #[.pointer (some ⟨b, 0, none⟩)] w fun e w' => e = .returned (.agg (fcells (numAt cur) n)) ∧ Below w.heap.size w w' := by
  obtain ⟨FC, hFC⟩ : ∃ FC, fcells (numAt cur) n = FC := ⟨_, rfl⟩
  have hsz : (Yba.prog.info? 26).map (·.size) = some FC.size := by rw [← hFC]; exact size26 _ _
  have hone : FC.all (·.oneCell') = true := by rw [← hFC]; exact one17 _ _
  have hs17 : zeros17.size = FC.size := by rw [← hFC]; rfl
  have hcells : ∀ j v, FC.toList[j]? = some v → (w.alloc (.cells zeros17 26)).cell? ⟨b, j, none⟩ = some v := by
    intro j v hv
    rw [← hFC] at hv
    rw [(hr.alloc _).cell]
    rcases fcells_get hv with ⟨hj, rfl⟩ | ⟨rfl, rfl⟩
    · exact ho.hs j hj
    · exact ho.cn
  rw [hFC]
  have A1 := hide (heap_alloc_new w (.cells zeros17 26))
  have HC := hide hcells
  have SZ := hide hsz
  have ON := hide hone
  have ZS := hide hs17
  clear hFC hsz hone hs17 hcells hr ho
  go_enter Yba.func12, Yba.ntmps12
  go_wp2_with (first | refine wpList_load_cells (by rfl) 26 (.tmp 5) (by rfl) b (by rfl) FC _ HC.out Yba.underlying26 (by rfl) SZ.out ?_ | refine wpList_store_row (by rfl) 26 (.tmp 2) (.tmp 6) (by rfl) w.heap.size FC (by rfl) (by rfl) 26 zeros17 A1.out SZ.out ZS.out ON.out ?_)
  have hfin := setRow_heap _ w.heap.size zeros17 FC 26 (0, 0) A1.out
  refine bodyPost_ret (v := .agg FC) ?_ rfl ⟨rfl, ?_⟩
  · exact results_cell_row Yba.results12 _ _ w.heap.size 26 FC (0, 0) _ (by rfl) hfin Yba.underlying26 rfl SZ.out
  · exact below_setRow ((Below.refl _ _).alloc (Nat.le_refl _) _) (Nat.le_refl _) _

def zeros19 : List Value := [.int .u64 0, .int .u64 0, .int .u64 0, .int .u64 0, .int .u64 0, .int .u64 0, .int .u64 0, .int .u64 0, .int .u64 0, .int .u64 0, .int .u64 0, .int .u64 0, .int .u64 0, .int .u64 0, .int .u64 0, .int .u64 0, .int .i64 0, .int .u64 0, .int .i64 0]
theorem zeros19_ok : OkRow zeros19 0 := by
  refine ⟨rfl, fun i hi => ?_, rfl, by omega⟩
  match i, hi with
  | 0, _ => rfl
  | 1, _ => rfl
  | 2, _ => rfl
  | 3, _ => rfl
  | 4, _ => rfl
  | 5, _ => rfl
  | 6, _ => rfl
  | 7, _ => rfl
  | 8, _ => rfl
  | 9, _ => rfl
  | 10, _ => rfl
  | 11, _ => rfl
  | 12, _ => rfl
  | 13, _ => rfl
  | 14, _ => rfl
  | 15, _ => rfl
  | n + 16, h => exact absurd h (by omega)

def OfPost (w : World) (e : Ending) (w' : World) : Prop :=
  ∃ (h : Nat → Int) (n : Nat), n ≤ 16 ∧ e = .returned (.agg (fcells h n)) ∧ Below w.heap.size w w'

set_option maxHeartbeats 400000 in
theorem of_walk (a : Option Addr) (len cap : Nat) (c : Nat → Int) (w : World) (hl : len ≤ 4096) (hcap : len ≤ cap)
    (hp : len = 0 ∨ ∃ pb po, a = some ⟨pb, po, none⟩ ∧ ∀ j, j < len → w.cell? ⟨pb, po + j, none⟩ = some (.int .u8 (c j))) :
    Calls Yba.prog 8 #[.slice a len cap] w fun e w' => OfPost w e w' := by
  have bel0 : Below w.heap.size w ((w.alloc (.cells zeros17 26)).alloc (.cells zeros19.toArray 43)) := ((Below.refl _ _).alloc (Nat.le_refl _) _).alloc (by simp) _
  have hrow : Row ((w.alloc (.cells zeros17 26)).alloc (.cells zeros19.toArray 43)) (w.heap.size + 1) zeros19 := heap_alloc2_new _ _ _
  have hR : ((w.alloc (.cells zeros17 26)).alloc (.cells zeros19.toArray 43)).heap[w.heap.size]? = some (.cells zeros17 26 (0, 0)) := heap_alloc2_old _ _ _
  have hbytes : Bytes ((w.alloc (.cells zeros17 26)).alloc (.cells zeros19.toArray 43)) (w.heap.size + 1) a len c := by
    rcases hp with h0 | ⟨pb, po, rfl, hc⟩
    · exact .inl h0
    · by_cases h0 : len = 0
      · exact .inl h0
      · have hlt := World.block_lt_of_cell? _ _ (hc 0 (by omega))
        exact .inr ⟨pb, po, rfl, by have : pb < w.heap.size := hlt; omega, fun j hj => cell_later bel0 (hc j hj)⟩
  have HW := hide (write_walk (w.heap.size + 1) 0 zeros19 0 0 a len cap c _ hrow zeros19_ok rfl rfl (by omega) hl hcap hbytes)
  have HRR := hide hR
  have HB0 := hide bel0
  clear bel0 hrow hR hbytes hp
  unfold zeros17 zeros19 at HW HRR HB0
  go_enter Yba.func8, Yba.ntmps8
  go_wp2_with fail
  refine HW.out.mono ?_
  rintro e w1 ⟨cur, n, rfl, hr1, ho1, hn1⟩
  have hsz1 : w.heap.size + 2 ≤ w1.heap.size := by have := hn1.size; simpa using this
  have hR1 : w1.heap[w.heap.size]? = some (.cells zeros17 26 (0, 0)) := by rw [hn1.block _ (by simp; omega) (by omega)]; exact HRR.out
  have bel1 : Below w.heap.size w w1 := HB0.out.trans ⟨hn1.os, hn1.tape, hn1.output, hn1.size, fun k hk => hn1.block k (by simp; omega) (by omega)⟩
  have HR1 := hide hR1
  have HB1 := hide bel1
  have HF := hide (features_walk (w.heap.size + 1) n cur w1 hr1 ho1)
  have hn := ho1.le
  clear hr1 ho1 hn1 hR1 bel1 HW HRR HB0
  go_wp2_with fail
  refine HF.out.mono ?_
  rintro e w2 ⟨rfl, hb2⟩
  have HR2 : Hid (w2.heap[w.heap.size]? = some (.cells zeros17 26 (0, 0))) := by show _ = _; rw [hb2.block _ (by omega)]; exact HR1.out
  have HB2 := hide (HB1.out.trans (hb2.mono HB1.out.size))
  obtain ⟨FC, hFC⟩ : ∃ FC, fcells (numAt cur) n = FC := ⟨_, rfl⟩
  have hsz : (Yba.prog.info? 26).map (·.size) = some FC.size := by rw [← hFC]; exact size26 _ _
  have hone : FC.all (·.oneCell') = true := by rw [← hFC]; exact one17 _ _
  have hs17 : zeros17.size = FC.size := by rw [← hFC]; rfl
  rw [hFC]
  have HFC := hide hFC
  have SZ := hide hsz
  have ON := hide hone
  have ZS := hide hs17
  clear hFC hsz hone hs17 hb2
  go_wp2_with (refine wpList_store_row (by rfl) 26 (.tmp 2) (.tmp 6) (by rfl) w.heap.size FC (by rfl) (by rfl) 26 zeros17 HR2.out SZ.out ZS.out ON.out ?_)
  have hfin := setRow_heap _ w.heap.size zeros17 FC 26 (0, 0) HR2.out
  refine bodyPost_ret (v := .agg FC) ?_ rfl ⟨numAt cur, n, hn, by rw [HFC.out], ?_⟩
  · exact results_cell_row Yba.results8 _ _ w.heap.size 26 FC (0, 0) _ (by rfl) hfin Yba.underlying26 rfl SZ.out
  · exact below_setRow HB2.out (Nat.le_refl _) _

set_option maxHeartbeats 400000 in
theorem least_walk (h : Nat → Int) (n : Nat) (w : World) (hn : n ≤ 16) :
    Calls Yba.prog 9 #[.agg (fcells h n), .int .i64 16] w fun e w' => e = .returned (.slice (some ⟨w.heap.size, 0, none⟩) n 16) ∧ Below w.heap.size w w' := by
  have hn' : (n : Int) ≤ 16 := by omega
  unfold fcells
  go_enter Yba.func9, Yba.ntmps9
  go_wp2_with fail
  all_goals go_ret
  · exact ⟨rfl, (Below.refl _ _).alloc (Nat.le_refl _) _⟩
  · have e : n = 16 := by omega
    subst e
    exact ⟨rfl, (Below.refl _ _).alloc (Nat.le_refl _) _⟩

theorem shF_self (h : Nat → Int) (n r i : Nat) (hr : i + r ≤ n) : shF h h n n r i i = r := by
  induction r generalizing i with
  | zero => rfl
  | succ r ih => rw [shF_eq (by omega) (by omega) rfl, ih (i + 1) (by omega)]; omega

set_option maxHeartbeats 800000 in
theorem self_walk (a : Option Addr) (len cap : Nat) (c : Nat → Int) (w : World) (hm : len ≤ 9223372036854775807) (hcap : len ≤ cap)
    (hp : len = 0 ∨ ∃ pb po, a = some ⟨pb, po, none⟩ ∧ ∀ j, j < len → w.cell? ⟨pb, po + j, none⟩ = some (.int .u8 (c j))) :
    Calls Yba.prog 4 #[.slice a len cap] w fun e w' => e = .returned (.bool true) ∧ Below w.heap.size w w' := by
  by_cases hl : len ≤ 4096
  · have hl' : ¬ (4096 : Int) < (len : Int) := by omega
    have HO := hide (of_walk a len cap c w hl hcap hp)
    clear hp
    go_enter Yba.func4, Yba.ntmps4
    go_wp2_with fail
    refine HO.out.mono ?_
    rintro e w1 ⟨h, n, hn, rfl, hb1⟩
    have HLe := hide (fun wx => least_walk h n wx hn)
    have HSh := hide (fun wx => shared_walk h h n n wx hn hn)
    rw [Nat.min_self, shF_self h n n 0 (by omega)] at HSh
    obtain ⟨FC, hFC⟩ : ∃ FC, fcells h n = FC := ⟨_, rfl⟩
    have hsz : (Yba.prog.info? 26).map (·.size) = some FC.size := by rw [← hFC]; exact size26 _ _
    have hone : FC.all (·.oneCell') = true := by rw [← hFC]; exact one17 _ _
    have hs17 : zeros17.size = FC.size := by rw [← hFC]; rfl
    rw [hFC] at HLe HSh ⊢
    have SZ := hide hsz
    have ON := hide hone
    have ZS := hide hs17
    have A1 := hide (heap_alloc_new w1 (.cells zeros17 26))
    have A2 := hide (setRow_heap _ w1.heap.size zeros17 FC 26 (0, 0) A1.out)
    have bel1 := hide (below_setRow (hb1.alloc hb1.size (.cells zeros17 26)) hb1.size FC)
    have hn' : (n : Int) ≤ 16 := by omega
    clear hFC hsz hone hs17 hb1
    go_wp2_with (first | refine wpList_store_row (by rfl) 26 (.tmp 3) (.tmp 9) (by rfl) w1.heap.size FC (by rfl) (by rfl) 26 zeros17 A1.out SZ.out ZS.out ON.out ?_ | refine wpList_load_row (by rfl) 26 (.tmp 3) (by rfl) w1.heap.size (by rfl) 26 FC (0, 0) _ A2.out Yba.underlying26 (by rfl) SZ.out ?_)
    refine (HLe.out _).mono ?_
    rintro e w2 ⟨rfl, hb2⟩
    have A3 : Hid (w2.heap[w1.heap.size]? = some (.cells FC 26 (0, 0))) := by show _ = _; rw [hb2.block _ (by simp)]; exact A2.out
    have bel2 := hide (bel1.out.trans (hb2.mono bel1.out.size))
    clear hb2
    go_wp2_with (refine wpList_load_row_g (by rfl) 26 (.tmp 3) (by rfl) w1.heap.size (by rfl) 26 FC (0, 0) _ A3.out Yba.underlying26 (by rfl) SZ.out ?_)
    refine (HSh.out _).mono ?_
    rintro e w3 ⟨rfl, hb3⟩
    have bel3 := hide (bel2.out.trans (hb3.mono bel2.out.size))
    clear hb3
    go_wp2_with fail
    go_ret
    exact ⟨rfl, bel3.out⟩
  · have hl' : (4096 : Int) < (len : Int) := by omega
    clear hp
    go_enter Yba.func4, Yba.ntmps4
    go_wp2
    go_ret
    exact ⟨rfl, Below.refl _ _⟩
end Go.Proofs.Ybulkctis
