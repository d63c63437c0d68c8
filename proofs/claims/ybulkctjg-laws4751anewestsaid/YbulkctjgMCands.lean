import Derived.Test.YbulkctjgCands
namespace Go.Proofs.Ybulkctjg
open Go.RowKit
set_option linter.unusedVariables false

def MPost (d : D) (n : Nat) (w : World) (e : Ending) (w' : World) : Prop :=
  ∃ g cap, e = .returned (.slice (some ⟨g, 0, none⟩) (cand d n).length cap) ∧ Own w' 48 g (cand d n).length cap (cand d n) ∧ w.heap.size ≤ g ∧ Kp (fun k => w.heap.size ≤ k) w w'

theorem drop_rev (xs : List Nat) (j : Nat) (h : j < xs.length) : (xs.drop j).reverse = (xs.drop (j + 1)).reverse ++ [xs.getD j 0] := by
  rw [List.drop_eq_getElem_cons h, List.reverse_cons, List.getD_eq_getElem?_getD, List.getElem?_eq_getElem h]
  rfl

set_option maxRecDepth 100000 in
set_option maxHeartbeats 4000000 in
theorem mcands_walk (d : D) (b : Bk) (y : Dy) (S n : Nat) (tv : Value) (c : Int) (sv : Value) (w : World) (hok : d.Ok) (hn : n < d.nM + 2) (hst : Stat d b (view S w)) (hS : S ≤ w.heap.size) (hg : Gis d b y tv c sv w) :
    Calls Yba.prog 21 #[.pointer (some ⟨y.G, 0, none⟩), .int .i64 d.nM, .int .i64 n] w fun e w' => MPost d n w e w' := by
  have hn' : (n : Int) < (d.nM : Int) + 2 := by omega
  have hm3 := hok.m2
  have HST := hide hst
  have HG := hide hg
  have hGlt := hg.lt
  have ka : Kp (fun k => w.heap.size ≤ k) w (w.alloc (.cells #[] 48)) := (Kp.refl _ _).alloc _
  have o0 : Own (w.alloc (.cells #[] 48)) 48 w.heap.size 0 0 [] := ⟨rfl, .inr ⟨w.heap.size, 0, #[], rfl, Nat.zero_le _, heap_new _ _ _, Nat.le_refl _, by unfold maxLen; omega, rfl, rfl⟩⟩
  have st1 : Stat d b (view S (w.alloc (.cells #[] 48))) := by rw [ka.view hS (fun k h => by omega)]; exact hst
  have gs1 := ka.gis hg (by omega)
  have r0 := gs1.c0
  have OO := hide o0
  have ST1 := hide st1
  have KA := hide ka
  clear o0 st1 gs1 ka hst hg
  by_cases hm : n < d.nM
  · have hm' : (n : Int) < (d.nM : Int) := by omega
    have l4 := view_cell ST1.out.l4
    obtain ⟨rv0, rd0⟩ := ST1.out.rev n hm
    have rv0 := view_cell rv0
    have hcd : cand d n = (d.revs n).reverse := by unfold cand; rw [if_pos hm]
    have hrl := hok.rl n hm
    obtain ⟨T, hT⟩ : ∃ T, (d.revs n).length = T := ⟨_, rfl⟩
    rw [hT] at rv0
    have HT := hide hT
    have HCD := hide hcd
    have hT3 : T ≤ 3 := by omega
    have hcase : ∃ bb : Nat, T = 0 ∨ b.rA n = some ⟨bb, 0, none⟩ := by
      by_cases h : T = 0
      · exact ⟨0, .inl h⟩
      · obtain ⟨bb, h1, _⟩ := rd0 0 (by omega)
        exact ⟨bb, .inr h1⟩
    have HRD := hide rd0
    clear hcd hT hrl rd0
    obtain ⟨bb, h0 | hbb⟩ := hcase
    · subst h0
      go_enter Yba.func21, Yba.ntmps21
      go_wp2_with fail
      go_loopg [7, 9] 0 (fun k v i wr => v = .slice (some ⟨w.heap.size, 0, none⟩) 0 0 ∧ i = .int .i64 (-1) ∧ wr = w.alloc (.cells #[] 48))
      case atStart => exact ⟨rfl, rfl, rfl⟩
      case round =>
        obtain ⟨rfl, rfl, rfl⟩ := hrel
        go_wp2
        go_ret
        have e : cand d n = [] := by rw [HCD.out, List.eq_nil_of_length_eq_zero HT.out]; rfl
        refine ⟨w.heap.size, 0, by rw [e]; rfl, by rw [e]; exact OO.out, Nat.le_refl _, KA.out⟩
    · rw [hbb] at rv0
      have HBB := hide hbb
      clear hbb
      go_enter Yba.func21, Yba.ntmps21
      go_wp2_with fail
      go_loopg [7, 9] T (fun k v i wr => ∃ (m g cap : Nat) (z : Int), m + k = T ∧ z = (k : Int) - 1 ∧ v = .slice (some ⟨g, 0, none⟩) m cap ∧ i = .int .i64 z ∧ Hid (w.heap.size ≤ g ∧ Own wr 48 g m cap ((d.revs n).drop k).reverse ∧ Kp (fun k => w.heap.size ≤ k) w wr))
      case atStart =>
        refine ⟨0, w.heap.size, 0, (T : Int) - 1, by omega, rfl, rfl, by go_num, hide ⟨Nat.le_refl _, ?_, KA.out⟩⟩
        rw [List.drop_of_length_le (by rw [HT.out]; exact Nat.le_refl _)]
        exact OO.out
      case round =>
        obtain ⟨m, g, cap, z, hmk, hz, rfl, rfl, HQ⟩ := hrel
        by_cases h0 : gk = 0
        · subst h0
          have hz1 : z = -1 := by omega
          subst hz1
          clear hz
          go_wp2
          go_ret
          obtain ⟨h1, h2, h3⟩ := HQ.out
          rw [List.drop_zero] at h2
          have hl := HT.out
          refine ⟨g, cap, ?_, ?_, h1, h3⟩
          · rw [HCD.out, List.length_reverse, HT.out, show T = m by omega]; rfl
          · rw [HCD.out, List.length_reverse, HT.out, show T = m by omega]; exact h2
        · obtain ⟨j, hj⟩ : ∃ j, gk = j + 1 := ⟨gk - 1, by omega⟩
          have hzj : z = (j : Int) := by omega
          subst hzj
          obtain ⟨h1, h2, h3⟩ := HQ.out
          have hl := HT.out
          have stq : Stat d b (view S wr) := by rw [h3.view hS (fun k h => by omega)]; exact HST.out
          obtain ⟨bb', e1, hcell⟩ := (stq.rev n hm).2 j (by omega)
          have hcell := view_cell hcell
          rw [HBB.out] at e1
          injection e1 with e1
          injection e1 with e1 _ _
          subst e1
          obtain ⟨v, hv⟩ : ∃ v, (d.revs n).getD j 0 = v := ⟨_, rfl⟩
          rw [hv] at hcell
          have hjT : (j : Int) < (T : Int) := by omega
          have hj0 : (0 : Int) ≤ (j : Int) := by omega
          have hdr := drop_rev (d.revs n) j (by omega)
          rw [hv, ← hj] at hdr
          have HD := hide (And.intro hdr hj)
          have AA := hide (And.intro h1 (And.intro h2 h3))
          have hm3' : m ≤ 3 := by omega
          clear h1 h2 h3 stq hv hdr hz HQ hj h0
          go_wp2_with (at_builtin; (refine wpList_app _ rfl (.tmp 35) (.tmp 40) 33 48 rfl Yba.underlying33 (.int .i32 0) 1 4 info48 rfl (by omega) (by omega) (.slice (some ⟨g, 0, none⟩) m cap) m (i32s ((d.revs n).drop gk).reverse) rfl (World.ownsRow.alloc AA.out.2.1 _) wr.heap.size [.int .i32 (v : Int)] (heap_new_at _ _ _ rfl) rfl rfl (by simp [Value.oneCell']) (by omega) ?_))
          intro g2 cap2 w8 hown hkp0 hat hlt2
          have hlm := AA.out.2.1.len
          have ho8 := OV.snocN hlm hown
          have hsa : (wr.alloc (.cells #[.int .i32 (v : Int)] 48)).heap.size = wr.heap.size + 1 := by simp
          have hg2 : w.heap.size ≤ g2 := by
            rcases hat with h | h
            · have : g = g2 := by simpa [Value.ownBlock] using h
              have := AA.out.1; omega
            · have := AA.out.2.2.size; omega
          have k8 : Kp (fun k => w.heap.size ≤ k) w w8 := (AA.out.2.2.alloc _).trans' hkp0 (fun i hi e => by
            have h1 : g = i := by simpa [Value.ownBlock] using e
            have := AA.out.1; omega)
          have H8 := hide (And.intro ho8 (And.intro hg2 k8))
          clear hlm ho8 hsa hg2 k8 hown hkp0 hat hlt2
          go_wp2
          go_roundg j
          case measure => have := HD.out.2; omega
          case rel =>
            have := HD.out.2
            refine ⟨m + 1, g2, cap2, (j : Int) - 1, by omega, rfl, rfl, by go_num, hide ⟨H8.out.2.1, ?_, H8.out.2.2⟩⟩
            rw [HD.out.1]
            exact H8.out.1
  · have hm' : ¬ ((n : Int) < (d.nM : Int)) := by omega
    have l5 := view_cell ST1.out.l5
    obtain ⟨rv0, rd0⟩ := ST1.out.rns n (by omega) hn
    have rv0 := view_cell rv0
    have hcd : cand d n = isort (newer d) ((d.runs n).filter d.pas) := by unfold cand; rw [if_neg hm]
    have hrl := hok.ul n (by omega) hn
    have hrn := hok.rns n (by omega) hn
    obtain ⟨T, hT⟩ : ∃ T, (d.runs n).length = T := ⟨_, rfl⟩
    rw [hT] at rv0
    have HT := hide hT
    have HCD := hide hcd
    have HRN := hide hrn
    have hT10 : T ≤ 10 := by omega
    have hcase : ∃ bb : Nat, T = 0 ∨ b.uA n = some ⟨bb, 0, none⟩ := by
      by_cases h : T = 0
      · exact ⟨0, .inl h⟩
      · obtain ⟨bb, h1, _⟩ := rd0 0 (by omega)
        exact ⟨bb, .inr h1⟩
    clear hcd hT hrl rd0 hrn
    obtain ⟨bb, h0 | hbb⟩ := hcase
    · subst h0
      go_enter Yba.func21, Yba.ntmps21
      go_wp2_with fail
      go_loopg [7, 54] 0 (fun k v i wr => v = .slice (some ⟨w.heap.size, 0, none⟩) 0 0 ∧ i = .int .i64 0 ∧ wr = w.alloc (.cells #[] 48))
      case atStart => exact ⟨rfl, rfl, rfl⟩
      case round =>
        obtain ⟨rfl, rfl, rfl⟩ := hrel
        go_wp2
        go_ret
        have e : cand d n = [] := by rw [HCD.out, List.eq_nil_of_length_eq_zero HT.out]; rfl
        refine ⟨w.heap.size, 0, by rw [e]; rfl, by rw [e]; exact OO.out, Nat.le_refl _, KA.out⟩
    · rw [hbb] at rv0
      have HBB := hide hbb
      clear hbb
      go_enter Yba.func21, Yba.ntmps21
      go_wp2_with fail
      go_loopg [7, 54] T (fun k v i wr => ∃ (p m g cap : Nat), p + k = T ∧ m ≤ p ∧ v = .slice (some ⟨g, 0, none⟩) m cap ∧ i = .int .i64 p ∧ Hid (w.heap.size ≤ g ∧ Own wr 48 g m cap (isort (newer d) (((d.runs n).take p).filter d.pas)) ∧ Kp (fun k => w.heap.size ≤ k) w wr))
      case atStart => exact ⟨0, 0, w.heap.size, 0, by omega, by omega, rfl, rfl, hide ⟨Nat.le_refl _, OO.out, KA.out⟩⟩
      case round =>
        obtain ⟨p, m, g, cap, hp, hmp, rfl, rfl, HQ⟩ := hrel
        by_cases hlt : p < T
        · have hlt' : (p : Int) < (T : Int) := by omega
          obtain ⟨hgge, hown, hkp⟩ := HQ.out
          have hlen := HT.out
          have stq : Stat d b (view S wr) := by rw [hkp.view hS (fun k h => by omega)]; exact HST.out
          obtain ⟨bb', e1, hcell⟩ := (stq.rns n (by omega) hn).2 p (by omega)
          have hcell := view_cell hcell
          rw [HBB.out] at e1
          injection e1 with e1
          injection e1 with e1 _ _
          subst e1
          obtain ⟨v, hv⟩ : ∃ v, (d.runs n).getD p 0 = v := ⟨_, rfl⟩
          have hvm : v ∈ d.runs n := by rw [← hv, List.getD_eq_getElem?_getD, List.getElem?_eq_getElem (by omega)]; exact List.getElem_mem _
          obtain ⟨hvV, hvn⟩ := HRN.out v hvm
          rw [hv] at hcell
          have r0 := (hkp.gis HG.out (by omega)).c0
          have l3 := view_cell (stq.l3 (by omega))
          obtain ⟨rr1, _, rr3⟩ := stq.run v hvV hvn
          have rr1 := view_cell rr1
          have rr3 := view_cell rr3
          have hvV' : (v : Int) < (d.nV : Int) := by omega
          have htake : (d.runs n).take (p + 1) = (d.runs n).take p ++ [v] := by
            rw [List.take_add_one, List.getElem?_eq_getElem (by omega), ← hv, List.getD_eq_getElem?_getD, List.getElem?_eq_getElem (by omega)]; rfl
          have hall : ∀ u, u ∈ isort (newer d) (((d.runs n).take p).filter d.pas) ++ [v] → u < d.nV ∧ d.nM ≤ d.node u := by
            intro u hu
            rcases List.mem_append.1 hu with h | h
            · exact HRN.out u (List.mem_of_mem_take (List.mem_filter.1 (mem_isort _ _ _ h)).1)
            · have : u = v := by simpa using h
              rw [this]; exact ⟨hvV, hvn⟩
          have HV := hide htake
          have HALL := hide hall
          have AA := hide (And.intro hgge (And.intro hown hkp))
          clear hv hvm htake hgge hown hkp stq HQ hall
          by_cases hpas : d.pas v = true
          · rw [hpas, if_pos rfl] at rr3
            unfold strPassed at rr3
            have HPA := hide hpas
            clear hpas
            go_wp2_with (at_builtin; (refine wpList_app _ rfl (.tmp 73) (.tmp 75) 33 48 rfl Yba.underlying33 (.int .i32 0) 1 4 info48 rfl (by omega) (by omega) (.slice (some ⟨g, 0, none⟩) m cap) m (i32s (isort (newer d) (((d.runs n).take p).filter d.pas))) rfl (World.ownsRow.alloc AA.out.2.1 _) wr.heap.size [.int .i32 (v : Int)] (heap_new_at _ _ _ rfl) rfl rfl (by simp [Value.oneCell']) (by omega) ?_))
            intro g2 cap2 w8 hown hkp0 hat hlt2
            have hlm := AA.out.2.1.len
            have ho8 := OV.snocN hlm hown
            have hsa : (wr.alloc (.cells #[.int .i32 (v : Int)] 48)).heap.size = wr.heap.size + 1 := by simp
            have hg2 : w.heap.size ≤ g2 := by
              rcases hat with h | h
              · have : g = g2 := by simpa [Value.ownBlock] using h
                have := AA.out.1; omega
              · have := AA.out.2.2.size; omega
            have k8 : Kp (fun k => w.heap.size ≤ k) w w8 := (AA.out.2.2.alloc _).trans' hkp0 (fun i hi e => by
              have h1 : g = i := by simpa [Value.ownBlock] using e
              have := AA.out.1; omega)
            have H8 := hide (And.intro ho8 (And.intro hg2 (And.intro k8 hlm)))
            have hm10 : m ≤ 10 := by omega
            clear hlm ho8 hsa hg2 k8 hown hkp0 hat hlt2
            go_wp2
            obtain ⟨st0, hst0⟩ : ∃ st0, isort (newer d) (((d.runs n).take p).filter d.pas) ++ [v] = st0 := ⟨_, rfl⟩
            have HST0 := hide hst0
            clear hst0
            go_loopg [12] m (fun k jv wq => k ≤ m ∧ jv = .int .i64 k ∧ Hid (∃ ys : List Nat, Own wq 48 g2 (m + 1) cap2 ys ∧ bub (newer d) ys k = bub (newer d) st0 m ∧ (∀ u, u ∈ ys → u < d.nV ∧ d.nM ≤ d.node u) ∧ Kp (fun k => w.heap.size ≤ k) w wq))
            case atStart =>
              refine ⟨Nat.le_refl _, by go_num, hide ⟨st0, ?_, rfl, ?_, H8.out.2.2.1⟩⟩
              · rw [← HST0.out]; exact H8.out.1
              · rw [← HST0.out]; exact HALL.out
            case round =>
              obtain ⟨hgk, rfl, HQ2⟩ := hrel
              obtain ⟨ys, ho, hb, hmm, hkp⟩ := HQ2.out
              have hfin : ∀ zs : List Nat, zs = bub (newer d) st0 m → zs = isort (newer d) (((d.runs n).take (p + 1)).filter d.pas) := by
                intro zs hz
                have e : List.filter d.pas [v] = [v] := by simp [HPA.out]
                rw [hz, HV.out, List.filter_append, e, isort_snoc, H8.out.2.2.2, HST0.out]
              have HFIN := hide hfin
              clear hfin
              by_cases h0 : gk = 0
              · subst h0
                have HH := hide (And.intro ho (And.intro hb hkp))
                clear ho hb hmm hkp HQ2
                have hd : decide ((0 : Int) < 0) = false := rfl
                go_wp2_with fail
                go_quiet (fail)
                go_wp2
                go_roundg (T - (p + 1))
                case measure => omega
                case rel =>
                  refine ⟨p + 1, m + 1, g2, cap2, by omega, by omega, rfl, by go_num, hide ⟨H8.out.2.1, ?_, HH.out.2.2.drewN _⟩⟩
                  have h1 := HFIN.out ys HH.out.2.1
                  rw [← h1]
                  exact HH.out.1
              · obtain ⟨j, hj⟩ : ∃ j, gk = j + 1 := ⟨gk - 1, by omega⟩
                have hc1 := ho.cell gk (by omega)
                have hc0 := ho.cell j (by omega)
                have hlen2 := ho.len
                have hmx := hmm (ys.getD gk 0) (by rw [List.getD_eq_getElem?_getD, List.getElem?_eq_getElem (by omega)]; exact List.getElem_mem _)
                have hmy := hmm (ys.getD j 0) (by rw [List.getD_eq_getElem?_getD, List.getElem?_eq_getElem (by omega)]; exact List.getElem_mem _)
                obtain ⟨x, hx⟩ : ∃ x, ys.getD gk 0 = x := ⟨_, rfl⟩
                obtain ⟨y0, hy0⟩ : ∃ y0, ys.getD j 0 = y0 := ⟨_, rfl⟩
                rw [hx] at hc1 hmx
                rw [hy0] at hc0 hmy
                have gq := hkp.gis HG.out (by omega)
                have CW := hide (fun nn => newer_walk d b S y.G x y0 (wr.drewN nn) hok (by rw [show view S (wr.drewN nn) = view S wr from rfl, hkp.view hS (fun k h => by omega)]; exact HST.out) gq.c0 gq.c1 hmx.1 hmy.1 hmx.2 hmy.2)
                have HH := hide (And.intro ho (And.intro hb hkp))
                have HX1 := hide hx
                have HY1 := hide hy0
                have HM := hide hmm
                have HJ := hide hj
                have hd2 : (0 : Int) < (gk : Int) := by omega
                have hd2n : 0 < gk := by omega
                have hd5 : (gk : Int) < (m : Int) + 1 := by omega
                have hd6 : IntKind.i64.wrap ((gk : Int) - 1) = (j : Int) := by rw [IntWalk.i64_in _ (by omega)]; omega
                have hd6b : (gk : Int) - 1 = (j : Int) := by omega
                have hd8 : (j : Int) < (m : Int) + 1 := by omega
                have hz1 := ho.frozenAt gk
                have hz0 := ho.frozenAt j
                have hne : gk ≠ j := by omega
                have hne2 : j ≠ gk := fun e => hne e.symm
                clear ho hb hmm hkp HQ2 hx hy0 hmx hmy hj h0 gq
                by_cases hbt : newer d x y0 = true
                · have HBT := hide hbt
                  rw [hbt] at CW
                  clear hbt
                  go_wp2_with fail
                  go_quiet (first | (go_at_call 39; refine Calls.quiet_of (CW.out _)))
                  go_wp2
                  go_roundg j
                  case measure => have := HJ.out; omega
                  case rel =>
                    have hj := HJ.out
                    refine ⟨by omega, by go_num, hide ⟨swp ys j, ?_, ?_, ?_, ?_⟩⟩
                    · have h1 := (HH.out.1.set gk y0).set j x
                      unfold swp
                      rw [← hj, HX1.out, HY1.out]
                      exact h1
                    · have h1 := HH.out.2.1
                      rw [hj] at h1
                      rw [bub_succ] at h1
                      rw [← hj, HX1.out, HY1.out, HBT.out, if_pos rfl] at h1
                      exact h1
                    · intro u hu
                      have := HH.out.1.len
                      exact HM.out u (mem_swp ys j (by omega) u hu)
                    · exact ((HH.out.2.2.drewN _).setCell (fun h => H8.out.2.1) _).setCell (fun h => H8.out.2.1) _
                · have hbf : newer d x y0 = false := by simpa using hbt
                  have HBT := hide hbf
                  rw [hbf] at CW
                  clear hbt hbf
                  go_wp2_with fail
                  go_quiet (first | (go_at_call 39; refine Calls.quiet_of (CW.out _)))
                  go_wp2
                  go_roundg (T - (p + 1))
                  case measure => omega
                  case rel =>
                    refine ⟨p + 1, m + 1, g2, cap2, by omega, by omega, rfl, by go_num, hide ⟨H8.out.2.1, ?_, HH.out.2.2.drewN _⟩⟩
                    have h1 := HH.out.2.1
                    have hj := HJ.out
                    rw [hj] at h1
                    rw [bub_succ] at h1
                    rw [← hj, HX1.out, HY1.out, HBT.out, if_neg Bool.false_ne_true] at h1
                    have h2 := HFIN.out ys h1
                    rw [← h2]
                    exact HH.out.1
          · have hpf : d.pas v = false := by simpa using hpas
            rw [hpf, if_neg Bool.false_ne_true] at rr3
            unfold strFailed at rr3
            have HPA := hide hpf
            clear hpas hpf
            go_wp2
            go_roundg (T - (p + 1))
            case measure => omega
            case rel =>
              refine ⟨p + 1, m, g, cap, by omega, by omega, rfl, by go_num, hide ⟨AA.out.1, ?_, AA.out.2.2⟩⟩
              rw [HV.out, List.filter_append]
              have e : List.filter d.pas [v] = [] := by simp [HPA.out]
              rw [e, List.append_nil]
              exact AA.out.2.1
        · have hnl : ¬ ((p : Int) < (T : Int)) := by omega
          go_wp2
          go_ret
          obtain ⟨hgge, hown, hkp⟩ := HQ.out
          have hlen := HT.out
          rw [List.take_of_length_le (by omega)] at hown
          have hl2 := hown.len
          rw [← HCD.out] at hown hl2
          refine ⟨g, cap, by rw [hl2]; rfl, by rw [hl2]; exact hown, hgge, hkp⟩
end Go.Proofs.Ybulkctjg
