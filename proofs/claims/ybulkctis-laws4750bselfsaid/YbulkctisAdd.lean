import Derived.Test.YbulkctisWin
namespace Go.Proofs.Ybulkctis
open Go.RowKit
set_option linter.unusedVariables false
set_option linter.unusedSimpArgs false

/-- the number in place i of a row -/
def numAt (cur : List Value) (i : Nat) : Int := match cur[i]? with
  | some (.int _ x) => x
  | _ => 0
/-- the row of a FeatureWriter: sixteen hashes, their count, and two more -/
structure OkRow (cur : List Value) (n : Nat) : Prop where
  len : cur.length = 19
  hs : ∀ i, i < 16 → cur[i]? = some (.int .u64 (numAt cur i))
  cn : cur[16]? = some (.int .i64 (n : Int))
  le : n ≤ 16
def Row (w : World) (b : Nat) (cur : List Value) : Prop := w.heap[b]? = some (.cells cur.toArray 43 (0, 0))
theorem Row.cell {w : World} {b : Nat} {cur : List Value} (h : Row w b cur) (i : Nat) : w.cell? ⟨b, i, none⟩ = cur[i]? := by
  rw [cell_of_row w b i _ _ _ h]; simp
theorem Row.fz {w : World} {b : Nat} {cur : List Value} (h : Row w b cur) (i : Nat) : w.frozen? ⟨b, i, none⟩ = false := frozen_of_row w b i _ _ h
theorem Row.set {w : World} {b : Nat} {cur : List Value} (h : Row w b cur) (i : Nat) (v : Value) : Row (w.setCell ⟨b, i, none⟩ v) b (cur.set i v) := by
  have := heap_setCell_same w b i _ 43 v h
  unfold Row
  rw [this]; simp
theorem OkRow.setH {cur : List Value} {n : Nat} (h : OkRow cur n) (i : Nat) (hi : i < 16) (x : Int) : OkRow (cur.set i (.int .u64 x)) n := by
  refine ⟨by simpa using h.len, fun j hj => ?_, ?_, h.le⟩
  · have hl := h.len
    by_cases e : i = j
    · subst e
      rw [List.getElem?_set_self (by omega)]
      congr 2
      unfold numAt
      rw [List.getElem?_set_self (by omega)]
    · have e1 : (cur.set i (.int .u64 x))[j]? = cur[j]? := List.getElem?_set_ne e
      have e2 : numAt (cur.set i (.int .u64 x)) j = numAt cur j := by unfold numAt; rw [e1]
      rw [e1, e2]; exact h.hs j hj
  · rw [List.getElem?_set_ne (by omega)]; exact h.cn
theorem OkRow.setN {cur : List Value} {n : Nat} (h : OkRow cur n) (n' : Nat) (hn : n' ≤ 16) : OkRow (cur.set 16 (.int .i64 (n' : Int))) n' := by
  refine ⟨by simpa using h.len, fun j hj => ?_, ?_, hn⟩
  · have e1 : (cur.set 16 (.int .i64 (n' : Int)))[j]? = cur[j]? := List.getElem?_set_ne (by omega)
    have e2 : numAt (cur.set 16 (.int .i64 (n' : Int))) j = numAt cur j := by unfold numAt; rw [e1]
    rw [e1, e2]; exact h.hs j hj
  · have hl := h.len
    rw [List.getElem?_set_self (by omega)]
/-- a piece of the hashes copied one place on keeps the row a row -/
theorem OkRow.splice {cur : List Value} {n : Nat} (h : OkRow cur n) (off : Nat) (cs : List Value) (hfit : off + cs.length ≤ 16) (hcs : ∀ (j : Nat) (v : Value), cs[j]? = some v → ∃ x : Int, v = Value.int .u64 x) : OkRow (splice cur off cs) n := by
  have hl := h.len
  have e : ∀ j, (Go.splice cur off cs)[j]? = if off ≤ j ∧ j < off + cs.length then cs[j - off]? else cur[j]? := by
    intro j
    unfold Go.splice
    by_cases h1 : j < off
    · rw [List.getElem?_append_left (by simp; omega), List.getElem?_take, if_pos h1, if_neg (by omega)]
    · rw [List.getElem?_append_right (by simp; omega)]
      simp only [List.length_take]
      rw [show j - min off cur.length = j - off by omega]
      by_cases h2 : j < off + cs.length
      · rw [List.getElem?_append_left (by omega), if_pos (by omega)]
      · rw [List.getElem?_append_right (by omega), List.getElem?_drop, if_neg (by omega), show off + cs.length + (j - off - cs.length) = j by omega]
  refine ⟨by rw [length_splice _ _ _ (by omega)]; exact hl, fun j hj => ?_, ?_, h.le⟩
  · unfold numAt
    rw [e j]
    split
    · rename_i hc
      obtain ⟨x, hx⟩ := hcs (j - off) cs[j - off] (List.getElem?_eq_getElem (by omega))
      rw [List.getElem?_eq_getElem (l := cs) (i := j - off) (by omega), hx]
    · have := h.hs j hj
      rw [this]
  · rw [e 16, if_neg (by omega)]; exact h.cn

set_option maxHeartbeats 400000 in
theorem top_walk (b n : Nat) (cur : List Value) (w : World) (hr : Row w b cur) (ho : OkRow cur n) :
    Calls Yba.prog 13 #[.pointer (some ⟨b, 0, none⟩)] w fun e w' => ∃ T : Int, e = .returned (.int .u64 T) ∧ (n = 16 → T = numAt cur 15) ∧ w' = w := by
  have c16 : w.cell? ⟨b, 16, none⟩ = some (.int .i64 (n : Int)) := by rw [hr.cell, ho.cn]
  have c15 : w.cell? ⟨b, 15, none⟩ = some (.int .u64 (numAt cur 15)) := by rw [hr.cell, ho.hs 15 (by omega)]
  have hle := ho.le
  clear hr ho
  by_cases hn : n < 16
  · have hn' : (n : Int) < 16 := by omega
    go_enter Yba.func13, Yba.ntmps13
    go_wp2
    go_ret
    exact ⟨_, rfl, fun h => by omega, rfl⟩
  · have hn' : ¬ (n : Int) < 16 := by omega
    go_enter Yba.func13, Yba.ntmps13
    go_wp2
    go_ret
    exact ⟨_, rfl, fun _ => rfl, rfl⟩

/-- a copy as one step of a region that draws, the world told -/
theorem step_copy_told {P : Program} {ops : Array Oper} {o : Oper} {a : Act} {w : World} {K : Act → World → Prop} {Q : Exit → Act → World → Prop} {E : Prop} (hgd : o.guard = none) (d s : Operand) (dT sT : TypeId)
    (ho : o.op = .call { callee := .builtin .copy, args := #[d, s], argTypes := #[dT, sT] }) (elem : TypeId) (hu : P.underlying dT = some (.slice elem)) (hsz : (P.info? elem).map (·.size) = some 1)
    (dp sp : Option Addr) (dLen dCap sLen sCap : Nat) (hd : a.eval d = .slice dp dLen dCap) (hs : a.eval s = .slice sp sLen sCap)
    (g off : Nat) (cur : List Value) (t : TypeId) (hg : w.heap[g]? = some (.cells cur.toArray t (0, 0))) (cs : List Value) (hn : cs.length = Nat.min sLen dLen)
    (hpos : 0 < cs.length → dp = some ⟨g, off, none⟩ ∧ ∃ ad, sp = some ad ∧ ∀ j v, cs[j]? = some v → w.cell? (ad.add j) = some v)
    (hfit : off + cs.length ≤ cur.length) (h1 : ∀ v ∈ cs, v.oneCell' = true)
    (h : ∀ w', Hid (w' = w.setRow g (Go.splice cur off cs).toArray) → K (a.put o.dst (goInt cs.length)) w') :
    if Region.wanted o (yielded ops a.tmps) = true then Oper.wp P o a w K Q else E := by
  have hw : Region.wanted o (yielded ops a.tmps) = true := by simp [Region.wanted, hgd]
  rw [if_pos hw]
  by_cases h0 : cs.length = 0
  · obtain rfl : cs = [] := List.eq_nil_of_length_eq_zero h0
    have hrun := run_copy_none (P := P) w dT sT o.type elem dp sp dLen dCap sLen sCap hu hsz (by simpa using hn.symm)
    have he : w.setRow g (Go.splice cur off []).toArray = w := by
      rw [show Go.splice cur off [] = cur by simp [Go.splice]]
      exact setRow_self w g _ _ _ hg
    unfold Oper.wp
    simp [execOp, ho, resolve, invoke, builtin, hd, hs, hrun, Result.andThen]
    exact h w he.symm
  · obtain ⟨rfl, ad, rfl, hsrc⟩ := hpos (by omega)
    have hrun := run_copy_row (P := P) w dT sT o.type elem g off dLen dCap ad sLen sCap cur.toArray t cs hu hsz hg hn hsrc (by simpa using hfit) h1
    unfold Oper.wp
    simp [execOp, ho, resolve, invoke, builtin, hd, hs, hrun, Result.andThen]
    exact h _ (show _ = _ by simp [Go.splice])

theorem min0 (a b : Nat) (h : a - b = 0) : a - b = Nat.min (a - b) 0 := by rw [h]; rfl
theorem al24 : Yba.prog.arrayLen 24 = 16 := by kernel_rfl
theorem sz23 (w : World) : (sizeOf (Yba.prog.elem 24)).run Yba.prog w = .ok 1 w := by kernel_rfl
theorem slice_l (b at_ : Nat) (h : at_ < 15) (w : World) : (Instr.sliceAt 24 (.pointer (some ⟨b, 0, none⟩)) (some (.int .i64 ((at_ : Int) + 1))) none none).run Yba.prog w = .ok (.slice (some ⟨b, at_ + 1, none⟩) (15 - at_) (15 - at_)) w := by
  rw [run_sliceAt_array_l w 24 ⟨b, 0, none⟩ (by kernel_rfl) .i64 _ (by omega) (by rw [al24]; omega), sz23, al24]
  simp only [Result.andThen, slicedAt]
  rw [show ((at_ : Int) + 1).toNat = at_ + 1 by omega, if_neg (by omega), Go.WideShapes.add_plain, show 16 - (at_ + 1) = 15 - at_ by omega, Nat.mul_one, Nat.zero_add]
theorem slice_15 (b at_ : Nat) (h : at_ = 15) (w : World) : (Instr.sliceAt 24 (.pointer (some ⟨b, 0, none⟩)) (some (.int .i64 ((at_ : Int) + 1))) none none).run Yba.prog w = .ok (.slice (some ⟨b, 0, none⟩) 0 0) w := by
  subst h
  rw [run_sliceAt_array_l w 24 ⟨b, 0, none⟩ (by kernel_rfl) .i64 _ (by omega) (by rw [al24]; omega), sz23, al24]
  rfl
theorem slice_lh (b at_ m : Nat) (h1 : at_ ≤ m) (h2 : m ≤ 15) (w : World) : (Instr.sliceAt 24 (.pointer (some ⟨b, 0, none⟩)) (some (.int .i64 (at_ : Int))) (some (.int .i64 (m : Int))) none).run Yba.prog w = .ok (.slice (some ⟨b, at_, none⟩) (m - at_) (16 - at_)) w := by
  rw [run_sliceAt_array_lh w 24 ⟨b, 0, none⟩ (by kernel_rfl) .i64 .i64 _ _ (by omega) (by omega) (by rw [al24]; omega), sz23, al24]
  simp only [Result.andThen, slicedAt]
  rw [show (at_ : Int).toNat = at_ by omega, show (m : Int).toNat = m by omega, if_neg (by omega), Go.WideShapes.add_plain, Nat.mul_one, Nat.zero_add]

/-- the piece that add moves one place on -/
theorem piece (cur : List Value) (n at_ m : Nat) (ho : OkRow cur n) (h1 : at_ ≤ m) (h2 : m ≤ 15) : ∃ X : List Value, X.length = m - at_ ∧ (∀ v ∈ X, v.oneCell' = true) ∧ (∀ (j : Nat) (v : Value), X[j]? = some v → (∃ x : Int, v = Value.int .u64 x) ∧ cur[at_ + j]? = some v) := by
  have hl := ho.len
  have key : ∀ (j : Nat) (v : Value), ((cur.drop at_).take (m - at_))[j]? = some v → (∃ x : Int, v = Value.int .u64 x) ∧ cur[at_ + j]? = some v := by
    intro j v hv
    rw [List.getElem?_take] at hv
    split at hv
    · rename_i hj
      rw [List.getElem?_drop] at hv
      have := ho.hs (at_ + j) (by omega)
      rw [this] at hv
      exact ⟨⟨_, (Option.some.inj hv).symm⟩, by rw [this]; exact hv⟩
    · cases hv
  refine ⟨(cur.drop at_).take (m - at_), by simp; omega, fun v hv => ?_, key⟩
  obtain ⟨j, hj, rfl⟩ := List.getElem_of_mem hv
  obtain ⟨⟨x, hx⟩, _⟩ := key j _ (List.getElem?_eq_getElem hj)
  rw [hx]; rfl

theorem info23 : (Yba.prog.info? 23).map (·.size) = some 1 := by kernel_rfl

def AddPost (b : Nat) (w : World) (e : Ending) (w' : World) : Prop :=
  ∃ (cur' : List Value) (n' : Nat), e = .returned (.tuple #[]) ∧ Row w' b cur' ∧ OkRow cur' n' ∧ OnlyAt b w w'

set_option maxHeartbeats 1000000 in
theorem add_walk (b n : Nat) (cur : List Value) (x : Int) (w : World) (hr : Row w b cur) (ho : OkRow cur n) (hx : n = 16 → x ≤ numAt cur 15) :
    Calls Yba.prog 16 #[.pointer (some ⟨b, 0, none⟩), .int .u64 x] w fun e w' => AddPost b w e w' := by
  have c16 : w.cell? ⟨b, 16, none⟩ = some (.int .i64 (n : Int)) := by rw [hr.cell, ho.cn]
  have hle := ho.le
  have hn' : (n : Int) ≤ 16 := by omega
  have hbs := fun (wx : World) (h : ∀ j, j < n → wx.cell? ⟨b, j, none⟩ = some (.int .u64 (numAt cur j))) => bs_walk b n 16 (numAt cur) x wx hle h
  have hcs : ∀ j, j < n → w.cell? ⟨b, j, none⟩ = some (.int .u64 (numAt cur j)) := fun j hj => by rw [hr.cell, ho.hs j (by omega)]
  obtain ⟨at_, hat⟩ : ∃ at_, bsI (numAt cur) x n 0 n = at_ := ⟨_, rfl⟩
  have hatn : at_ ≤ n := by rw [← hat]; exact (bsI_le _ _ _ _ _ (Nat.zero_le _)).2
  have hat15 : at_ ≤ 15 := by
    by_cases h : at_ = n
    · have hl := bsI_last (numAt cur) x n 0 n (Nat.zero_le _) (by rw [hat, h]) (by omega)
      by_cases h16 : n = 16
      · rcases hl with hl | hl
        · omega
        · have := hx h16
          subst h16
          simp at hl
          omega
      · omega
    · omega
  rw [hat] at hbs
  have HBS := hide hbs
  have HCS := hide hcs
  have HR := hide hr
  have HO := hide ho
  clear hbs hcs hr ho hx hat
  go_enter Yba.func16, Yba.ntmps16
  go_wp2
  go_quiet ((go_at_call 17; exact Calls.quiet_of_same (HBS.out _ (by intro j hj; exact HCS.out j hj))))
  go_wp2
  · go_end0
    exact ⟨cur, n, rfl, HR.out, HO.out, (OnlyAt.refl _ _).drewN _⟩
  · have hwr : IntKind.i64.wrap ((at_ : Int) + 1) = (at_ : Int) + 1 := by rw [IntKind.wrap_i64]; omega
    have c16' : (w.drewN nq).cell? ⟨b, 16, none⟩ = some (.int .i64 (n : Int)) := c16
    by_cases h15 : n ≤ 15
    · have h15' : (n : Int) ≤ 15 := by omega
      have hmin : ¬ (15 : Int) < (n : Int) := by omega
      by_cases ha : at_ < 15
      · have hs1 := slice_l b at_ ha
        have hs2 := slice_lh b at_ n hatn h15
        obtain ⟨X, x1, x2, x3⟩ := piece cur n at_ n HO.out (by omega) (by omega)
        have X1 : Hid (X.length = Nat.min (n - at_) (15 - at_)) := by show _ = _; rw [x1]; exact (Nat.min_eq_left (by omega)).symm
        have X2 := hide x2
        have X3 := hide x3
        have X6 := hide x1
        have X4 : Hid (at_ + 1 + X.length ≤ cur.length) := by have := HO.out.len; show _ ≤ _; omega
        have X5 : Hid (∀ q : Nat, 0 < X.length → some (⟨b, at_ + 1, none⟩ : Addr) = some ⟨b, at_ + 1, none⟩ ∧ ∃ ad, some (⟨b, at_, none⟩ : Addr) = some ad ∧ ∀ (j : Nat) (v : Value), X[j]? = some v → (w.drewN q).cell? (ad.add j) = some v) := by
          intro q hpos
          refine ⟨rfl, _, rfl, fun j v hv => ?_⟩
          rw [Go.WideShapes.add_plain]
          show w.cell? _ = _
          rw [HR.out.cell]
          exact (X3.out j v hv).2
        clear x1 x2 x3
        go_region_law (refine step_copy_told ?_ (.tmp 25) (.tmp 35) 34 34 ?_ 23 Yba.underlying34 info23 (some ⟨b, at_ + 1, none⟩) (some ⟨b, at_, none⟩) (15 - at_) (15 - at_) (n - at_) (16 - at_) ?_ ?_ b (at_ + 1) cur 43 HR.out X X1.out (X5.out _) X4.out X2.out ?_; exact rfl; exact rfl; exact rfl; exact rfl; intro w2 hw2)
        all_goals
          have hrow : Row w2 b (Go.splice cur (at_ + 1) X) := by rw [hw2.out]; exact setRow_heap _ b _ _ 43 (0, 0) HR.out
          have hok : OkRow (Go.splice cur (at_ + 1) X) n := HO.out.splice (at_ + 1) X (by have := X6.out; omega) (fun j v hv => (X3.out j v hv).1)
          have honly : OnlyAt b w w2 := by rw [hw2.out]; exact ((OnlyAt.refl _ _).drewN _).setRow _
          obtain ⟨C, hC⟩ : ∃ C, Go.splice cur (at_ + 1) X = C := ⟨_, rfl⟩
          rw [hC] at hrow hok
          have cat : w2.cell? ⟨b, at_, none⟩ = some (.int .u64 (numAt C at_)) := by rw [hrow.cell, hok.hs at_ (by omega)]
          have zat := hrow.fz at_
          have hrow2 := hrow.set at_ (.int .u64 x)
          have hok2 := hok.setH at_ (by omega) x
          have k16 : (w2.setCell ⟨b, at_, none⟩ (.int .u64 x)).cell? ⟨b, 16, none⟩ = some (.int .i64 (n : Int)) := by rw [hrow2.cell, hok2.cn]
          have y16 := hrow2.fz 16
          have R2 := hide hrow2
          have O2 := hide hok2
          have N2 := hide honly
          clear hrow hok hrow2 hok2 honly hC
          have m1 : (n : Int) + 1 ≤ 16 := by omega
          go_wp2
          go_end0
          exact ⟨_, n + 1, rfl, R2.out.set 16 _, O2.out.setN (n + 1) (by omega), (N2.out.setCell at_ _).setCell 16 _⟩

      · have ha15 : at_ = 15 := by omega
        have hs1 := slice_15 b at_ ha15
        have HA := hide ha15
        clear ha15
        have hs2 := slice_lh b at_ n hatn h15
        obtain ⟨X, x1, x2, x3⟩ := piece cur n at_ n HO.out (by omega) (by omega)
        have X1 : Hid (X.length = Nat.min (n - at_) (0)) := by show _ = _; rw [x1]; exact min0 _ _ (by have := HA.out; omega)
        have X2 := hide x2
        have X3 := hide x3
        have X6 := hide x1
        have X4 : Hid (at_ + 1 + X.length ≤ cur.length) := by have := HO.out.len; show _ ≤ _; omega
        have X5 : Hid (∀ q : Nat, 0 < X.length → some (⟨b, 0, none⟩ : Addr) = some ⟨b, at_ + 1, none⟩ ∧ ∃ ad, some (⟨b, at_, none⟩ : Addr) = some ad ∧ ∀ (j : Nat) (v : Value), X[j]? = some v → (w.drewN q).cell? (ad.add j) = some v) := by
          intro q hpos
          refine ⟨by omega, _, rfl, fun j v hv => ?_⟩
          rw [Go.WideShapes.add_plain]
          show w.cell? _ = _
          rw [HR.out.cell]
          exact (X3.out j v hv).2
        clear x1 x2 x3
        go_region_law (refine step_copy_told ?_ (.tmp 25) (.tmp 35) 34 34 ?_ 23 Yba.underlying34 info23 (some ⟨b, 0, none⟩) (some ⟨b, at_, none⟩) (0) (0) (n - at_) (16 - at_) ?_ ?_ b (at_ + 1) cur 43 HR.out X X1.out (X5.out _) X4.out X2.out ?_; exact rfl; exact rfl; exact rfl; exact rfl; intro w2 hw2)
        all_goals
          have hrow : Row w2 b (Go.splice cur (at_ + 1) X) := by rw [hw2.out]; exact setRow_heap _ b _ _ 43 (0, 0) HR.out
          have hok : OkRow (Go.splice cur (at_ + 1) X) n := HO.out.splice (at_ + 1) X (by have := X6.out; omega) (fun j v hv => (X3.out j v hv).1)
          have honly : OnlyAt b w w2 := by rw [hw2.out]; exact ((OnlyAt.refl _ _).drewN _).setRow _
          obtain ⟨C, hC⟩ : ∃ C, Go.splice cur (at_ + 1) X = C := ⟨_, rfl⟩
          rw [hC] at hrow hok
          have cat : w2.cell? ⟨b, at_, none⟩ = some (.int .u64 (numAt C at_)) := by rw [hrow.cell, hok.hs at_ (by omega)]
          have zat := hrow.fz at_
          have hrow2 := hrow.set at_ (.int .u64 x)
          have hok2 := hok.setH at_ (by omega) x
          have k16 : (w2.setCell ⟨b, at_, none⟩ (.int .u64 x)).cell? ⟨b, 16, none⟩ = some (.int .i64 (n : Int)) := by rw [hrow2.cell, hok2.cn]
          have y16 := hrow2.fz 16
          have R2 := hide hrow2
          have O2 := hide hok2
          have N2 := hide honly
          clear hrow hok hrow2 hok2 honly hC
          have m1 : (n : Int) + 1 ≤ 16 := by omega
          go_wp2
          go_end0
          exact ⟨_, n + 1, rfl, R2.out.set 16 _, O2.out.setN (n + 1) (by omega), (N2.out.setCell at_ _).setCell 16 _⟩

    · have h15' : ¬ (n : Int) ≤ 15 := by omega
      have hmin : (15 : Int) < (n : Int) := by omega
      by_cases ha : at_ < 15
      · have hs1 := slice_l b at_ ha
        have hs2 : ∀ wx, (Instr.sliceAt 24 (.pointer (some ⟨b, 0, none⟩)) (some (.int .i64 (at_ : Int))) (some (.int .i64 15)) none).run Yba.prog wx = .ok (.slice (some ⟨b, at_, none⟩) (15 - at_) (16 - at_)) wx := slice_lh b at_ 15 hat15 (by omega)
        obtain ⟨X, x1, x2, x3⟩ := piece cur n at_ 15 HO.out (by omega) (by omega)
        have X1 : Hid (X.length = Nat.min (15 - at_) (15 - at_)) := by show _ = _; rw [x1]; exact (Nat.min_eq_left (Nat.le_refl _)).symm
        have X2 := hide x2
        have X3 := hide x3
        have X6 := hide x1
        have X4 : Hid (at_ + 1 + X.length ≤ cur.length) := by have := HO.out.len; show _ ≤ _; omega
        have X5 : Hid (∀ q : Nat, 0 < X.length → some (⟨b, at_ + 1, none⟩ : Addr) = some ⟨b, at_ + 1, none⟩ ∧ ∃ ad, some (⟨b, at_, none⟩ : Addr) = some ad ∧ ∀ (j : Nat) (v : Value), X[j]? = some v → (w.drewN q).cell? (ad.add j) = some v) := by
          intro q hpos
          refine ⟨rfl, _, rfl, fun j v hv => ?_⟩
          rw [Go.WideShapes.add_plain]
          show w.cell? _ = _
          rw [HR.out.cell]
          exact (X3.out j v hv).2
        clear x1 x2 x3
        go_region_law (refine step_copy_told ?_ (.tmp 25) (.tmp 35) 34 34 ?_ 23 Yba.underlying34 info23 (some ⟨b, at_ + 1, none⟩) (some ⟨b, at_, none⟩) (15 - at_) (15 - at_) (15 - at_) (16 - at_) ?_ ?_ b (at_ + 1) cur 43 HR.out X X1.out (X5.out _) X4.out X2.out ?_; exact rfl; exact rfl; exact rfl; exact rfl; intro w2 hw2)
        all_goals
          have hrow : Row w2 b (Go.splice cur (at_ + 1) X) := by rw [hw2.out]; exact setRow_heap _ b _ _ 43 (0, 0) HR.out
          have hok : OkRow (Go.splice cur (at_ + 1) X) n := HO.out.splice (at_ + 1) X (by have := X6.out; omega) (fun j v hv => (X3.out j v hv).1)
          have honly : OnlyAt b w w2 := by rw [hw2.out]; exact ((OnlyAt.refl _ _).drewN _).setRow _
          obtain ⟨C, hC⟩ : ∃ C, Go.splice cur (at_ + 1) X = C := ⟨_, rfl⟩
          rw [hC] at hrow hok
          have cat : w2.cell? ⟨b, at_, none⟩ = some (.int .u64 (numAt C at_)) := by rw [hrow.cell, hok.hs at_ (by omega)]
          have zat := hrow.fz at_
          have hrow2 := hrow.set at_ (.int .u64 x)
          have hok2 := hok.setH at_ (by omega) x
          have k16 : (w2.setCell ⟨b, at_, none⟩ (.int .u64 x)).cell? ⟨b, 16, none⟩ = some (.int .i64 (n : Int)) := by rw [hrow2.cell, hok2.cn]
          have y16 := hrow2.fz 16
          have R2 := hide hrow2
          have O2 := hide hok2
          have N2 := hide honly
          clear hrow hok hrow2 hok2 honly hC
          have m1 : ¬ (n : Int) + 1 ≤ 16 := by omega
          go_wp2
          go_end0
          exact ⟨_, 16, rfl, R2.out.set 16 _, O2.out.setN (16) (by omega), (N2.out.setCell at_ _).setCell 16 _⟩

      · have ha15 : at_ = 15 := by omega
        have hs1 := slice_15 b at_ ha15
        have HA := hide ha15
        clear ha15
        have hs2 : ∀ wx, (Instr.sliceAt 24 (.pointer (some ⟨b, 0, none⟩)) (some (.int .i64 (at_ : Int))) (some (.int .i64 15)) none).run Yba.prog wx = .ok (.slice (some ⟨b, at_, none⟩) (15 - at_) (16 - at_)) wx := slice_lh b at_ 15 hat15 (by omega)
        obtain ⟨X, x1, x2, x3⟩ := piece cur n at_ 15 HO.out (by omega) (by omega)
        have X1 : Hid (X.length = Nat.min (15 - at_) (0)) := by show _ = _; rw [x1]; exact min0 _ _ (by have := HA.out; omega)
        have X2 := hide x2
        have X3 := hide x3
        have X6 := hide x1
        have X4 : Hid (at_ + 1 + X.length ≤ cur.length) := by have := HO.out.len; show _ ≤ _; omega
        have X5 : Hid (∀ q : Nat, 0 < X.length → some (⟨b, 0, none⟩ : Addr) = some ⟨b, at_ + 1, none⟩ ∧ ∃ ad, some (⟨b, at_, none⟩ : Addr) = some ad ∧ ∀ (j : Nat) (v : Value), X[j]? = some v → (w.drewN q).cell? (ad.add j) = some v) := by
          intro q hpos
          refine ⟨by omega, _, rfl, fun j v hv => ?_⟩
          rw [Go.WideShapes.add_plain]
          show w.cell? _ = _
          rw [HR.out.cell]
          exact (X3.out j v hv).2
        clear x1 x2 x3
        go_region_law (refine step_copy_told ?_ (.tmp 25) (.tmp 35) 34 34 ?_ 23 Yba.underlying34 info23 (some ⟨b, 0, none⟩) (some ⟨b, at_, none⟩) (0) (0) (15 - at_) (16 - at_) ?_ ?_ b (at_ + 1) cur 43 HR.out X X1.out (X5.out _) X4.out X2.out ?_; exact rfl; exact rfl; exact rfl; exact rfl; intro w2 hw2)
        all_goals
          have hrow : Row w2 b (Go.splice cur (at_ + 1) X) := by rw [hw2.out]; exact setRow_heap _ b _ _ 43 (0, 0) HR.out
          have hok : OkRow (Go.splice cur (at_ + 1) X) n := HO.out.splice (at_ + 1) X (by have := X6.out; omega) (fun j v hv => (X3.out j v hv).1)
          have honly : OnlyAt b w w2 := by rw [hw2.out]; exact ((OnlyAt.refl _ _).drewN _).setRow _
          obtain ⟨C, hC⟩ : ∃ C, Go.splice cur (at_ + 1) X = C := ⟨_, rfl⟩
          rw [hC] at hrow hok
          have cat : w2.cell? ⟨b, at_, none⟩ = some (.int .u64 (numAt C at_)) := by rw [hrow.cell, hok.hs at_ (by omega)]
          have zat := hrow.fz at_
          have hrow2 := hrow.set at_ (.int .u64 x)
          have hok2 := hok.setH at_ (by omega) x
          have k16 : (w2.setCell ⟨b, at_, none⟩ (.int .u64 x)).cell? ⟨b, 16, none⟩ = some (.int .i64 (n : Int)) := by rw [hrow2.cell, hok2.cn]
          have y16 := hrow2.fz 16
          have R2 := hide hrow2
          have O2 := hide hok2
          have N2 := hide honly
          clear hrow hok hrow2 hok2 honly hC
          have m1 : ¬ (n : Int) + 1 ≤ 16 := by omega
          go_wp2
          go_end0
          exact ⟨_, 16, rfl, R2.out.set 16 _, O2.out.setN (16) (by omega), (N2.out.setCell at_ _).setCell 16 _⟩
end Go.Proofs.Ybulkctis
