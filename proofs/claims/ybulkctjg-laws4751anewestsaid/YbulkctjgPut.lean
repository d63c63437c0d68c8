import Derived.Test.YbulkctjgMCands
namespace Go.Proofs.Ybulkctjg
open Go.RowKit
set_option linter.unusedVariables false

namespace Plain
theorem tryPut_cons (s : Nat → Int) (n x : Nat) (r : List (Nat × Nat)) : tryPut s ((n, x) :: r) = if s n = -1 then tryPut (upd s n x) r else if s n = (x : Int) then tryPut s r else none := rfl
theorem tryPut_append (ps bs : List (Nat × Nat)) : ∀ s, tryPut s (ps ++ bs) = (tryPut s ps).bind fun s' => tryPut s' bs := by
  induction ps with
  | nil => intro s; rfl
  | cons p ps ih =>
    intro s
    obtain ⟨n, x⟩ := p
    rw [List.cons_append, tryPut_cons, tryPut_cons]
    split
    · exact ih _
    · split
      · exact ih _
      · rfl
theorem tryPut_one_new (s : Nat → Int) (n x : Nat) (h : s n = -1) : tryPut s [(n, x)] = some (upd s n x) := by unfold tryPut; rw [if_pos h]; rfl
theorem tryPut_one_same (s : Nat → Int) (n x : Nat) (h : s n ≠ -1) (h2 : s n = (x : Int)) : tryPut s [(n, x)] = some s := by unfold tryPut; rw [if_neg h, if_pos h2]; rfl
theorem tryPut_one_bad (s : Nat → Int) (n x : Nat) (h : s n ≠ -1) (h2 : s n ≠ (x : Int)) : tryPut s [(n, x)] = none := by unfold tryPut; rw [if_neg h, if_neg h2]
end Plain

/-- set, as tryPut of one -/
theorem set_calls (B n cap N x : Nat) (s : Nat → Int) (w : World) (hN : n < N) (hr : w.rowIs B 48 N (fun i => .int .i32 (s i))) :
    Calls Yba.prog 40 #[.slice (some ⟨B, 0, none⟩) N cap, .int .i32 n, .int .i32 x] w fun e w' =>
      ∃ ok s', e = .returned (.bool ok) ∧ w'.rowIs B 48 N (fun i => .int .i32 (s' i)) ∧ Kp (fun k => k = B) w w' ∧ Plain.tryPut s [(n, x)] = (if ok then some s' else none) := by
  refine (set_walk B n cap N s x w hN hr).mono ?_
  rintro e w' (⟨h, rfl, rfl⟩ | ⟨h, rfl, rfl⟩)
  · refine ⟨true, Plain.upd s n x, rfl, (hr.set n _).congr ?_, Kp.set1 _ _ _ _, ?_⟩
    · intro i hi; unfold Plain.upd; split <;> rfl
    · rw [if_pos rfl, Plain.tryPut_one_new s n x h]
  · by_cases h2 : s n = (x : Int)
    · exact ⟨true, s, by rw [decide_eq_true h2], hr, Kp.refl _ _, by rw [if_pos rfl, Plain.tryPut_one_same s n x h h2]⟩
    · exact ⟨false, s, by rw [decide_eq_false h2], hr, Kp.refl _ _, by rw [if_neg Bool.false_ne_true, Plain.tryPut_one_bad s n x h h2]⟩

def PutPost (d : D) (v B : Nat) (s : Nat → Int) (w : World) (e : Ending) (w' : World) : Prop :=
  ∃ ok s', e = .returned (.bool ok) ∧ w'.rowIs B 48 (d.nM + 2) (fun i => .int .i32 (s' i)) ∧ Kp (fun k => k = B) w w' ∧ Plain.tryPut s (rest d v) = (if ok then some s' else none)

set_option maxRecDepth 100000 in
set_option maxHeartbeats 4000000 in
theorem put_walk (d : D) (b : Bk) (y : Dy) (S v B cap : Nat) (tv : Value) (c : Int) (sv : Value) (s : Nat → Int) (w : World) (hok : d.Ok) (hv : v < d.nV) (hst : Stat d b (view S w)) (hS : S ≤ w.heap.size) (hBS : S ≤ B) (hBG : B ≠ y.G) (hg : Gis d b y tv c sv w) (hr : w.rowIs B 48 (d.nM + 2) (fun i => .int .i32 (s i))) :
    Calls Yba.prog 22 #[.pointer (some ⟨y.G, 0, none⟩), .slice (some ⟨B, 0, none⟩) (d.nM + 2) cap, .int .i32 v] w fun e w' => PutPost d v B s w e w' := by
  have hv' : (v : Int) < (d.nV : Int) := by omega
  have HST := hide hst
  have HG := hide hg
  have r0 := hg.c0
  have l3 := view_cell (hst.l3 (by omega))
  have ln := view_cell (hst.node v hv)
  have SW := hide (set_calls B (d.node v) cap (d.nM + 2) v s w (hok.node v hv) hr)
  have hil := hok.il v hv
  clear hst hg hr
  go_enter Yba.func22, Yba.ntmps22
  go_wp2_with fail
  refine SW.out.mono ?_
  rintro e w1 ⟨ok, s1, rfl, hr1, k1, hp1⟩
  cases ok with
  | false =>
    have HH := hide (And.intro hr1 (And.intro k1 hp1))
    clear hr1 k1 hp1
    go_wp2
    go_ret
    refine ⟨false, s1, rfl, HH.out.1, HH.out.2.1, ?_⟩
    rw [show rest d v = [(d.node v, v)] ++ (d.ins v).map (pair d) from rfl, Plain.tryPut_append, HH.out.2.2]
    rfl
  | true =>
    have st1 : Stat d b (view S w1) := by rw [k1.view hS (fun k h => by omega)]; exact HST.out
    have g1 := k1.gis HG.out (fun e => hBG e.symm)
    have r0' := g1.c0
    have l3' := view_cell (st1.l3 (by omega))
    obtain ⟨qi, rd0⟩ := st1.ins v hv
    have qi := view_cell qi
    obtain ⟨T, hT⟩ : ∃ T, (d.ins v).length = T := ⟨_, rfl⟩
    rw [hT] at qi
    have hcase : ∃ bb : Nat, T = 0 ∨ b.iA v = some ⟨bb, 0, none⟩ := by
      by_cases h : T = 0
      · exact ⟨0, .inl h⟩
      · obtain ⟨bb, h1, _⟩ := rd0 0 (by omega)
        exact ⟨bb, .inr h1⟩
    have HT := hide hT
    have hT3 : T ≤ 3 := by omega
    have HH := hide (And.intro hr1 (And.intro k1 hp1))
    clear hr1 k1 hp1 st1 g1 rd0 hT hil
    obtain ⟨bb, h0 | hbb⟩ := hcase
    · subst h0
      go_wp2_with fail
      go_loopg [36] 0 (fun k i wr => i = .int .i64 0 ∧ wr = w1)
      case atStart => exact ⟨rfl, rfl⟩
      case round =>
        obtain ⟨rfl, rfl⟩ := hrel
        go_wp2
        go_ret
        refine ⟨true, s1, rfl, HH.out.1, HH.out.2.1, ?_⟩
        rw [show rest d v = [(d.node v, v)] ++ (d.ins v).map (pair d) from rfl, List.eq_nil_of_length_eq_zero HT.out]
        exact HH.out.2.2
    · rw [hbb] at qi
      have HBB := hide hbb
      clear hbb
      go_wp2_with fail
      go_loopg [36] T (fun k i wr => ∃ p : Nat, p + k = T ∧ i = .int .i64 p ∧ Hid (∃ sp, wr.rowIs B 48 (d.nM + 2) (fun i => .int .i32 (sp i)) ∧ Kp (fun k => k = B) w wr ∧ Plain.tryPut s ((d.node v, v) :: ((d.ins v).take p).map (pair d)) = some sp))
      case atStart => exact ⟨0, by omega, rfl, hide ⟨s1, HH.out.1, HH.out.2.1, HH.out.2.2⟩⟩
      case round =>
        obtain ⟨p, hp, rfl, HQ⟩ := hrel
        by_cases hlt : p < T
        · have hlt' : (p : Int) < (T : Int) := by omega
          obtain ⟨sp, a1, a2, a3⟩ := HQ.out
          have hlen := HT.out
          have stq : Stat d b (view S wr) := by rw [a2.view hS (fun k h => by omega)]; exact HST.out
          obtain ⟨bb', e1, hcell⟩ := (stq.ins v hv).2 p (by omega)
          have hcell := view_cell hcell
          rw [HBB.out] at e1
          injection e1 with e1
          injection e1 with e1 _ _
          subst e1
          obtain ⟨u, hu⟩ : ∃ u, (d.ins v).getD p 0 = u := ⟨_, rfl⟩
          have hum : u ∈ d.ins v := by rw [← hu, List.getD_eq_getElem?_getD, List.getElem?_eq_getElem (by omega)]; exact List.getElem_mem _
          have huV := (hok.ins v hv u hum).1
          rw [hu] at hcell
          have p0 := (a2.gis HG.out (fun e => hBG e.symm)).c0
          have p3 := view_cell (stq.l3 (by omega))
          have pn := view_cell (stq.node u huV)
          have huV' : (u : Int) < (d.nV : Int) := by omega
          have htake : (d.ins v).take (p + 1) = (d.ins v).take p ++ [u] := by
            rw [List.take_add_one, List.getElem?_eq_getElem (by omega), ← hu, List.getD_eq_getElem?_getD, List.getElem?_eq_getElem (by omega)]; rfl
          have SU := hide (set_calls B (d.node u) cap (d.nM + 2) u sp wr (hok.node u huV) a1)
          have AA := hide (And.intro a1 (And.intro a2 (And.intro a3 htake)))
          clear a1 a2 a3 htake stq hu hum HQ hlen
          go_wp2_with fail
          refine SU.out.mono ?_
          rintro e w2 ⟨ok, s2, rfl, hr2, k2, hp2⟩
          have hstep : Plain.tryPut s ((d.node v, v) :: ((d.ins v).take (p + 1)).map (pair d)) = (if ok then some s2 else none) := by
            rw [AA.out.2.2.2, List.map_append, ← List.cons_append, Plain.tryPut_append, AA.out.2.2.1]
            exact hp2
          have H2 := hide (And.intro hr2 (And.intro (AA.out.2.1.trans k2) hstep))
          clear hr2 k2 hp2 hstep
          cases ok with
          | true =>
            go_wp2
            go_roundg (T - (p + 1))
            case measure => omega
            case rel => exact ⟨p + 1, by omega, by go_num, hide ⟨s2, H2.out.1, H2.out.2.1, H2.out.2.2⟩⟩
          | false =>
            go_wp2
            go_ret
            refine ⟨false, s2, rfl, H2.out.1, H2.out.2.1, ?_⟩
            have e : rest d v = ((d.node v, v) :: ((d.ins v).take (p + 1)).map (pair d)) ++ ((d.ins v).drop (p + 1)).map (pair d) := by
              rw [List.cons_append, ← List.map_append, List.take_append_drop]; rfl
            rw [e, Plain.tryPut_append, H2.out.2.2]
            rfl
        · have hnl : ¬ ((p : Int) < (T : Int)) := by omega
          go_wp2
          go_ret
          obtain ⟨sp, a1, a2, a3⟩ := HQ.out
          have hlen := HT.out
          rw [List.take_of_length_le (by omega)] at a3
          exact ⟨true, sp, rfl, a1, a2, a3⟩
end Go.Proofs.Ybulkctjg
