import Derived.Test.YbulkctisAdd
import Derived.Deep.DeepCutAuto
namespace Go.Proofs.Ybulkctis
open Go.RowKit
set_option linter.unusedVariables false
set_option linter.unusedSimpArgs false

theorem Row.lt {w : World} {b : Nat} {cur : List Value} (h : Row w b cur) : b < w.heap.size := by
  rcases Nat.lt_or_ge b w.heap.size with h' | h'
  · exact h'
  · unfold Row at h; rw [Array.getElem?_eq_none h'] at h; cases h
theorem Row.alloc {w : World} {b : Nat} {cur : List Value} (h : Row w b cur) (o : Obj) : Row (w.alloc o) b cur := by
  have hl := h.lt
  unfold Row
  rw [Below.heap_alloc _ _ _ hl]; exact h
theorem OnlyAt.alloc {b : Nat} {u w : World} (h : OnlyAt b u w) (o : Obj) : OnlyAt b u (w.alloc o) :=
  h.trans ⟨rfl, rfl, rfl, by simp, fun k hk _ => Below.heap_alloc _ _ _ hk⟩

theorem OnlyAt.setNew {b : Nat} {u w : World} (h : OnlyAt b u w) {p : Addr} (hp : u.heap.size ≤ p.block) (x : Value) : OnlyAt b u (w.setCell p x) :=
  ⟨h.os, h.tape, h.output, by have := h.size; simpa [World.setCell] using this, fun k hk hb => by rw [heap_setCell_other w p k x (by omega)]; exact h.block k hk hb⟩
/-- an only-at behind another: what the first may turn is new -/
theorem OnlyAt.behind {b g : Nat} {u w w' : World} (h : OnlyAt b u w) (k : OnlyAt g w w') (hg : u.heap.size ≤ g) : OnlyAt b u w' :=
  ⟨k.os.trans h.os, k.tape.trans h.tape, k.output.trans h.output, Nat.le_trans h.size k.size, fun i hi hb => (k.block i (Nat.lt_of_lt_of_le hi h.size) (by omega)).trans (h.block i hi hb)⟩
theorem Row.other {w w' : World} {b g : Nat} {cur : List Value} (h : Row w b cur) (k : OnlyAt g w w') (hne : b ≠ g) : Row w' b cur := by
  unfold Row; rw [k.block b h.lt hne]; exact h
theorem Win.lt {w : World} {wb : Nat} {v : Int} {q : Nat} (h : Win w wb v q) : wb < w.heap.size := by
  rcases Nat.lt_or_ge wb w.heap.size with h' | h'
  · exact h'
  · unfold Win at h; rw [Array.getElem?_eq_none h'] at h; cases h
theorem Win.other {w w' : World} {wb b : Nat} {v : Int} {q : Nat} (h : Win w wb v q) (k : OnlyAt b w w') (hne : wb ≠ b) : Win w' wb v q := by
  unfold Win; rw [k.block wb h.lt hne]; exact h

theorem OkRow.setHi {cur : List Value} {n : Nat} (h : OkRow cur n) (i : Nat) (hi : 17 ≤ i) (x : Value) : OkRow (cur.set i x) n := by
  refine ⟨by simpa using h.len, fun j hj => ?_, ?_, h.le⟩
  · have e1 : (cur.set i x)[j]? = cur[j]? := List.getElem?_set_ne (by omega)
    have e2 : numAt (cur.set i x) j = numAt cur j := by unfold numAt; rw [e1]
    rw [e1, e2]; exact h.hs j hj
  · rw [List.getElem?_set_ne (by omega)]; exact h.cn
theorem OkRow.some {cur : List Value} {n : Nat} (h : OkRow cur n) (i : Nat) (hi : i < 19) : ∃ v, cur[i]? = .some v := by
  have hl := h.len
  exact ⟨cur[i], List.getElem?_eq_getElem (by omega)⟩

/-- the bytes that came in -/
def Bytes (w : World) (b : Nat) (a : Option Addr) (len : Nat) (c : Nat → Int) : Prop :=
  len = 0 ∨ ∃ pb po, a = some ⟨pb, po, none⟩ ∧ pb ≠ b ∧ ∀ j, j < len → w.cell? ⟨pb, po + j, none⟩ = some (.int .u8 (c j))

def WritePost (b len : Nat) (w : World) (e : Ending) (w' : World) : Prop :=
  ∃ (cur' : List Value) (n' : Nat), e = .returned (.tuple #[.int .i64 (len : Int), .nilIface]) ∧ Row w' b cur' ∧ OkRow cur' n' ∧ OnlyAt b w w'

set_option maxHeartbeats 1000000 in
theorem write_walk (b n : Nat) (cur : List Value) (v : Int) (q : Nat) (a : Option Addr) (len cap : Nat) (c : Nat → Int) (w : World) (hr : Row w b cur) (ho : OkRow cur n)
    (h17 : cur[17]? = some (.int .u64 v)) (h18 : cur[18]? = some (.int .i64 (q : Int))) (hq : q ≤ 63) (hl : len ≤ 4096) (hcap : len ≤ cap) (hp : Bytes w b a len c) :
    Calls Yba.prog 11 #[.pointer (some ⟨b, 0, none⟩), .slice a len cap] w fun e w' => WritePost b len w e w' := by
  have c17 : w.cell? ⟨b, 17, none⟩ = some (.int .u64 v) := by rw [hr.cell, h17]
  have c18 : w.cell? ⟨b, 18, none⟩ = some (.int .i64 (q : Int)) := by rw [hr.cell, h18]
  have hlt := hr.lt
  have HR := hide hr
  have HO := hide ho
  have HP := hide hp
  clear hr ho hp h17 h18
  go_enter Yba.func11, Yba.ntmps11
  go_wp2
  go_cut [6, 7] (fun s6 s7 wc => s6 = .pointer (some ⟨w.heap.size, 0, none⟩) ∧ (∃ T : Int, s7 = .int .u64 T ∧ (n = 16 → T = numAt cur 15)) ∧ Win wc w.heap.size v q ∧ Row wc b cur ∧ OnlyAt b w wc)
  case first =>
    go_region_with (go_at_call 13; refine (top_walk b n cur _ ?_ HO.out).mono ?_; (repeat (first | exact HR.out | refine Row.alloc ?_ _)); rintro e w' ⟨T, rfl, hT, rfl⟩)
    all_goals (go_wp2_with fail; go_meet; exact ⟨rfl, ⟨_, rfl, hT⟩, heap_alloc_new w _, HR.out.alloc _, ((OnlyAt.refl b w).alloc _).drew⟩)
  case rest =>
    obtain ⟨rfl, ⟨T, rfl, hT⟩, hwin, hrow, honly⟩ := hcut
    have hbw : b ≠ w.heap.size := by omega
    have HW1 := hide hwin
    have HR1 := hide hrow
    have HN1 := hide honly
    have HT := hide hT
    have HP1 : Hid (Bytes wc w.heap.size a len c) := by
      rcases HP.out with h0 | ⟨pb, po, rfl, hne, hcell⟩
      · exact .inl h0
      · by_cases h0 : len = 0
        · exact .inl h0
        · have hlt2 := World.block_lt_of_cell? _ _ (hcell 0 (by omega))
          exact .inr ⟨pb, po, rfl, by show pb ≠ w.heap.size; have : pb < w.heap.size := hlt2; omega, fun j hj => HN1.out.cell (a := ⟨pb, po + j, none⟩) hne (hcell j hj)⟩
    clear hwin hrow honly hT c17 c18
    go_wp2_with fail
    refine (fill_walk w.heap.size v q a len cap c _ HW1.out hq hl HP1.out).mono ?_
    rintro e w2 ⟨i, q2, v2, hi, hq2, rfl, hwin2, honly2⟩
    have hrow2 : Row w2 b cur := by unfold Row; rw [honly2.block b HR1.out.lt hbw]; exact HR1.out
    have HW2 := hide hwin2
    have HR2 := hide hrow2
    have HP2 : Hid (Bytes w2 w.heap.size a len c) := by
      rcases HP1.out with h0 | ⟨pb, po, rfl, hne, hcell⟩
      · exact .inl h0
      · exact .inr ⟨pb, po, rfl, hne, fun j hj => honly2.cell (a := ⟨pb, po + j, none⟩) hne (hcell j hj)⟩
    have HN2 := hide (HN1.out.behind honly2 (Nat.le_refl _))
    clear hwin2 hrow2 honly2
    have hi' : (i : Int) ≤ (len : Int) := by omega
    have hlc : (len : Int) ≤ (cap : Int) := by omega
    by_cases hil : i = len
    · have hz : ¬ (i : Int) < (len : Int) := by omega
      have t0 := HW2.out.c0
      have t1 := HW2.out.c1
      obtain ⟨x17, e17⟩ := HO.out.some 17 (by omega)
      obtain ⟨x18, e18⟩ := HO.out.some 18 (by omega)
      have d17 : w2.cell? ⟨b, 17, none⟩ = some x17 := by rw [HR2.out.cell, e17]
      have d18 : w2.cell? ⟨b, 18, none⟩ = some x18 := by rw [HR2.out.cell, e18]
      have f17 := HR2.out.fz 17
      have f18 := HR2.out.fz 18
      clear e17 e18
      go_wp2_with fail
      all_goals
        refine wp_loop_rounds 1 ?_
        rw [rounds_succ]
        go_wp2_with fail
        go_ret2
        exact ⟨_, _, rfl, (HR2.out.set 17 _).set 18 _, (HO.out.setHi 17 (by omega) _).setHi 18 (by omega) _, (HN2.out.setCell 17 _).setCell 18 _⟩
    · rcases HP2.out with h0 | ⟨pb, po, rfl, hne, hcell⟩
      · omega
      have hpb : pb ≠ b := by
        rcases HP.out with h0 | ⟨pb', po', e, hne', _⟩
        · omega
        · simp at e; omega
      have hic : ¬ cap = i := by omega
      have HCell : Hid (∀ j, j < len → w.cell? ⟨pb, po + j, none⟩ = some (.int .u8 (c j))) := by
        rcases HP.out with h0 | ⟨pb', po', e, hne', hc'⟩
        · omega
        · simp at e
          obtain ⟨rfl, rfl⟩ := e
          exact hc'
      clear hcell
      obtain ⟨L, hL⟩ : ∃ L : Nat, len - i = L := ⟨_, rfl⟩
      have hL' : (len : Int) - (i : Int) = (L : Int) := by omega
      have HL := hide hL
      clear hL
      go_wp2_with fail
      go_loopw [7, 9, 10, 24] (fun t _ _ k wr => ∃ (kk : Nat) (T2 : Int), kk ≤ L ∧ k = .int .i64 kk ∧ t = .int .u64 T2 ∧ Hid (∃ (cur2 : List Value) (n2 q3 : Nat) (v3 : Int), Row wr b cur2 ∧ OkRow cur2 n2 ∧ (n2 = 16 → T2 = numAt cur2 15) ∧ Win wr w.heap.size v3 q3 ∧ OnlyAt b w wr)) (fun _ _ _ k _ => L - (intOf k).toNat)
      case atStart => exact ⟨0, T, by omega, rfl, rfl, hide ⟨cur, n, q2, v2, HR2.out, HO.out, HT.out, HW2.out, HN2.out⟩⟩
      case round =>
        obtain ⟨kk, T2, hkk, rfl, rfl, HK⟩ := hrel
        obtain ⟨cur2, n2, q3, v3, R3, O3, T3, W3, N3⟩ := HK.out
        clear HK
        by_cases hlt2 : kk < L
        · have hlt2' : (kk : Int) < (L : Int) := by omega
          have cb := N3.cell (a := ⟨pb, po + (i + kk), none⟩) hpb (HCell.out (i + kk) (by have := HL.out; omega))
          rw [← Nat.add_assoc] at cb
          have cw := W3.c0
          have zw := W3.fz 0
          have R3h := hide R3
          have O3h := hide O3
          have T3h := hide T3
          have W3h := hide W3
          have N3h := hide N3
          clear R3 O3 T3 W3 N3
          go_wp2_with fail
          refine (next_walk w.heap.size v3 (c (i + kk)) _ cw zw).mono ?_
          rintro e w3 ⟨v4, hv, rfl, hw3⟩
          have R4 : Row w3 b cur2 := by rw [hw3]; exact R3h.out.other ((OnlyAt.refl w.heap.size wr).setCell 0 _) hbw
          have W4 : Win w3 w.heap.size v4 q3 := by rw [hw3]; exact W3h.out.set0 v4
          have N4 : OnlyAt b w w3 := by rw [hw3]; exact N3h.out.setNew (Nat.le_refl _) _
          clear hw3 cw zw cb
          have R4h := hide R4
          have W4h := hide W4
          have N4h := hide N4
          clear R4 W4 N4
          by_cases hle : hv ≤ T2
          · go_wp2_with fail
            refine (add_walk b n2 cur2 hv _ R4h.out O3h.out (fun h => by have := T3h.out h; omega)).mono ?_
            rintro e w4 ⟨cur5, n5, rfl, R5, O5, N5⟩
            have R5h := hide R5
            have O5h := hide O5
            have W5h := hide (W4h.out.other N5 (Ne.symm hbw))
            have N5h := hide (N4h.out.trans N5)
            clear R5 O5 N5
            go_wp2_with fail
            refine (top_walk b n5 cur5 _ R5h.out O5h.out).mono ?_
            rintro e w5 ⟨T5, rfl, hT5, rfl⟩
            have T5h := hide hT5
            clear hT5
            go_wp2_with fail
            go_roundw
            case rel => exact ⟨kk + 1, T5, by omega, by go_num, rfl, hide ⟨cur5, n5, q3, v4, R5h.out, O5h.out, T5h.out, W5h.out, N5h.out⟩⟩
            case measure => simp [intOf]; omega
          · go_wp2_with fail
            go_roundw
            case rel => exact ⟨kk + 1, T2, by omega, by go_num, rfl, hide ⟨cur2, n2, q3, v4, R4h.out, O3h.out, T3h.out, W4h.out, N4h.out⟩⟩
            case measure => simp [intOf]; omega
        · have hlt2' : ¬ (kk : Int) < (L : Int) := by omega
          have t0 := W3.c0
          have t1 := W3.c1
          obtain ⟨x17, e17⟩ := O3.some 17 (by omega)
          obtain ⟨x18, e18⟩ := O3.some 18 (by omega)
          have d17 : wr.cell? ⟨b, 17, none⟩ = some x17 := by rw [R3.cell, e17]
          have d18 : wr.cell? ⟨b, 18, none⟩ = some x18 := by rw [R3.cell, e18]
          have f17 := R3.fz 17
          have f18 := R3.fz 18
          clear e17 e18
          have R3h := hide R3
          have O3h := hide O3
          have N3h := hide N3
          clear R3 O3 T3 W3 N3
          go_wp2_with fail
          go_ret2
          exact ⟨_, _, rfl, (R3h.out.set 17 _).set 18 _, (O3h.out.setHi 17 (by omega) _).setHi 18 (by omega) _, (N3h.out.setCell 17 _).setCell 18 _⟩
end Go.Proofs.Ybulkctis
