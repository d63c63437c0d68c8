import Derived.Test.YbulkctjgStat
import Derived.Deep.RegionLaw
import Derived.Deep.CutBlock
import Derived.Deep.DrawnRows
namespace Go.Proofs.Ybulkctjg
open Go.RowKit
set_option linter.unusedVariables false
attribute [local go_sem ↓] app_pre

set_option maxRecDepth 100000 in
set_option maxHeartbeats 4000000 in
theorem build_walk (a0 r0 r1 r2 : Nat) (ra : Option Addr) (rn rc : Nat) (w : World) (h0 : a0 < 256) (h1 : r0 < 256) (h2 : r1 < 256) (h3 : r2 < 256) (hrn : rn ≤ 10) (hruns : RunsAt w ra rn) :
    Calls Yba.prog 8 #[.int .u8 a0, .agg #[.int .u8 r0, .int .u8 r1, .int .u8 r2], .slice ra rn rc] w fun e w' => BPost (1 + a0 % 3) w e w' := by
  obtain ⟨nM, hnM⟩ : ∃ nM : Nat, 1 + a0 % 3 = nM := ⟨_, rfl⟩
  have hM1 : 1 ≤ nM := by omega
  have hM3 : nM ≤ 3 := by omega
  have e1 : (1 : Int) + (a0 : Int) % 3 = (nM : Int) := by omega
  have hmkN : ∀ w : World, (Instr.makeSlice 29 (.int .i64 0) (.int .i64 ((nM : Int) + 2))).run Yba.prog w = .ok (.slice (some ⟨w.heap.size, 0, none⟩) 0 (nM + 2)) (w.alloc (.cells (madeCells #[.string ⟨#[]⟩] (nM + 2)) 9)) := makeN (nM + 2) (by omega)
  go_enter Yba.func8, Yba.ntmps8
  go_wp2_with fail
  clear hmkN e1
  obtain ⟨w2, hw2⟩ : ∃ w2, (w.alloc (.cells #[.int .u8 (r0 : Int), .int .u8 (r1 : Int), .int .u8 (r2 : Int)] 22)).alloc (.cells #[.string ⟨#[109, 48]⟩, .string ⟨#[109, 49]⟩, .string ⟨#[109, 50]⟩, .string ⟨#[112, 48]⟩, .string ⟨#[112, 49]⟩] 95) = w2 := ⟨_, rfl⟩
  have k2 : Kp (fun _ => False) w w2 := hw2 ▸ (((Kp.refl _ _).alloc _).alloc _)
  have cR : ∀ j, j < 3 → w2.cell? ⟨w.heap.size, j, none⟩ = some (.int .u8 (((if j = 0 then r0 else if j = 1 then r1 else r2 : Nat)) : Int)) := by
    intro j hj
    have hh : w2.heap[w.heap.size]? = some (.cells #[.int .u8 (r0 : Int), .int .u8 (r1 : Int), .int .u8 (r2 : Int)] 22 (0, 0)) := by
      rw [← hw2]
      exact (Below.heap_alloc _ _ _ (by simp)).trans (heap_alloc_new w _)
    rw [cell_of_row w2 w.heap.size j _ _ _ hh]
    rcases (by omega : j = 0 ∨ j = 1 ∨ j = 2) with e | e | e <;> subst e <;> rfl
  have cT : ∀ j, j < 5 → w2.cell? ⟨w.heap.size + 1, j, none⟩ = some (.string (tbS j)) := by
    intro j hj
    have hh : w2.heap[w.heap.size + 1]? = some (.cells #[.string ⟨#[109, 48]⟩, .string ⟨#[109, 49]⟩, .string ⟨#[109, 50]⟩, .string ⟨#[112, 48]⟩, .string ⟨#[112, 49]⟩] 95 (0, 0)) := by
      rw [← hw2]
      exact heap_new_at _ _ _ (by simp)
    rw [cell_of_row w2 _ j _ _ _ hh]
    rcases (by omega : j = 0 ∨ j = 1 ∨ j = 2 ∨ j = 3 ∨ j = 4) with e | e | e | e | e <;> subst e <;> rfl
  have hs2 : w2.heap.size = w.heap.size + 1 + 1 := by rw [← hw2]; simp
  have o2 : (w2.alloc (.cells (madeCells #[.string ⟨#[]⟩] (nM + 2)) 9)).ownsRow 0 9 1 (.slice (some ⟨w2.heap.size, 0, none⟩) 0 (nM + 2)) 0 (strs 0) := by
    obtain ⟨c, hc, hsz, _⟩ := World.rowIs_made w2 (.string ⟨#[]⟩) (nM + 2) 9
    exact ⟨rfl, .inr ⟨_, _, c, rfl, Nat.zero_le _, hc, Nat.zero_le _, by unfold maxLen; omega, by omega, by simp [strs]⟩⟩
  rw [hw2, ← hs2]
  rw [show w.heap.size + 1 = w2.heap.size - 1 by omega] at cT ⊢
  obtain ⟨T0, hT0⟩ : ∃ T0, w2.heap.size - 1 = T0 := ⟨_, rfl⟩
  rw [hT0] at cT ⊢
  have hTlt : T0 < w2.heap.size := by omega
  have HH := hide (And.intro k2 (And.intro cR (And.intro cT (And.intro hs2 o2))))
  clear hw2 k2 cR cT o2 hs2 hT0
  go_loopg [11, 12] nM (fun kk sv iv wr => ∃ m : Nat, m + kk = nM ∧ iv = .int .i64 m ∧ Hid (wr.ownsRow 0 9 1 sv m (strs m) ∧ (∀ k, sv.ownBlock = some k → w2.heap.size ≤ k) ∧ Kp (fun _ => False) w2 wr))
  case atStart =>
    refine ⟨0, by omega, rfl, hide ⟨HH.out.2.2.2.2, fun k e => ?_, (Kp.refl _ _).alloc _⟩⟩
    have : w2.heap.size = k := by simpa [Value.ownBlock] using e
    omega
  case round =>
    obtain ⟨m, hm, rfl, HQ⟩ := hrel
    obtain ⟨ho, hbk, kp⟩ := HQ.out
    by_cases hlt : m < nM
    · have hlt' : (m : Int) < (nM : Int) := by omega
      have hm5 : (m : Int) < 5 := by omega
      have ct := kp.cell (HH.out.2.2.1 m (by omega)) id
      have HO := hide ho
      have HK := hide (And.intro hbk kp)
      clear ho hbk kp HQ
      go_wp2_with (at_builtin; (refine wpList_app _ rfl (.tmp 49) (.tmp 53) 29 9 rfl Yba.underlying29 (.string ⟨#[]⟩) 1 16 info9 rfl (by omega) (by omega) _ m (strs m) rfl (World.ownsRow.alloc HO.out _) wr.heap.size [.string (tbS m)] (heap_new_at _ _ _ rfl) rfl rfl (by simp [Value.oneCell']) (by omega) ?_))
      intro g cap w3 hown hkp0 hat hlt3
      have AA := hide (And.intro hown (And.intro hkp0 hat))
      clear hown hkp0 hat hlt3
      go_wp2
      go_roundg (nM - (m + 1))
      case measure => omega
      case rel =>
        obtain ⟨hown, hkp0, hat⟩ := AA.out
        obtain ⟨hbk, kp⟩ := HK.out
        have hws := kp.size
        refine ⟨m + 1, by omega, by go_num, hide ⟨by rw [strs_succ]; exact hown, fun k e => ?_, (kp.alloc _).trans' hkp0 (fun i hi e => by have := hbk i e; omega)⟩⟩
        have hk' : g = k := by simpa [Value.ownBlock] using e
        subst hk'
        rcases hat with h | h
        · exact hbk _ h
        · have : (wr.alloc (.cells #[.string (tbS m)] 9)).heap.size = wr.heap.size + 1 := by simp
          omega
    · have hnl : ¬ ((m : Int) < (nM : Int)) := by omega
      obtain rfl : m = nM := by omega
      obtain ⟨wn, rfl⟩ : ∃ wn, wn = wr := ⟨_, rfl⟩
      have ct3 := kp.cell (HH.out.2.2.1 3 (by omega)) id
      have ct4 := kp.cell (HH.out.2.2.1 4 (by omega)) id
      have HO := hide ho
      have HK := hide (And.intro hbk kp)
      clear ho hbk kp HQ
      go_wp2_with (at_builtin; (refine wpList_app2 _ rfl (.tmp 55) (.tmp 60) 29 9 rfl Yba.underlying29 (.string ⟨#[]⟩) 1 16 info9 rfl (by omega) (by omega) _ m (strs m) rfl (World.ownsRow.alloc HO.out _) wn.heap.size [.string (tbS 3), .string (tbS 4)] (heap_new_at _ _ _ rfl) rfl rfl (by simp [Value.oneCell']) (by omega) ?_))
      intro g cap w3 hown hkp0 hat hlt3
      have AA := hide (And.intro hown (And.intro hkp0 hat))
      clear hown hkp0 hat hlt3 ct3 ct4
      have hmm : ∀ w : World, (Instr.makeMap 38 none).run Yba.prog w = .ok (.map (some w.heap.size)) (w.alloc (.map #[] 0)) := run_makeMap 38
      have hmk1 : ∀ w : World, (Instr.makeSlice 37 (.int .i64 ((m : Int) + 2)) (.int .i64 ((m : Int) + 2))).run Yba.prog w = .ok (.slice (some ⟨w.heap.size, 0, none⟩) (m + 2) (m + 2)) (w.alloc (.cells (madeCells #[.bool false] (m + 2)) 4)) := run_make_row' (P := Yba.prog) 37 4 (.bool false) 1 Yba.underlying37 info4 rfl .i64 .i64 (m + 2) (by omega) (by omega)
      have hmk2 : ∀ w : World, (Instr.makeSlice 32 (.int .i64 ((m : Int) + 2)) (.int .i64 ((m : Int) + 2))).run Yba.prog w = .ok (.slice (some ⟨w.heap.size, 0, none⟩) (m + 2) (m + 2)) (w.alloc (.cells (madeCells #[.slice none 0 0] (m + 2)) 33)) := run_make_row' (P := Yba.prog) 32 33 (.slice none 0 0) 24 Yba.underlying32 info33 rfl .i64 .i64 (m + 2) (by omega) (by omega)
      go_wp2_with fail
      clear hmm hmk1 hmk2
      obtain ⟨wz, hwz⟩ : ∃ wz, (((((w3.alloc (.map #[] 0)).alloc (.cells #[.slice (some ⟨g, 0, none⟩) (m + 2) cap, .slice (some ⟨w3.heap.size + 1 + 1, 0, none⟩) (m + 2) (m + 2), .map (some w3.heap.size), .slice none 0 0, .slice (some ⟨w3.heap.size + 1 + 1 + 1, 0, none⟩) (m + 2) (m + 2), .slice (some ⟨w3.heap.size + 1 + 1 + 1 + 1, 0, none⟩) (m + 2) (m + 2), .slice none 0 0, .int .i64 0, .map none] 42)).alloc (.cells (madeCells #[.bool false] (m + 2)) 4)).alloc (.cells (madeCells #[.slice none 0 0] (m + 2)) 33)).alloc (.cells (madeCells #[.slice none 0 0] (m + 2)) 33)) = wz := ⟨_, rfl⟩
      have z0 : Kp (fun _ => False) w3 wz := hwz ▸ ((((((Kp.refl _ w3).alloc _).alloc _).alloc _).alloc _).alloc _)
      have zM : MapN m w3.heap.size 0 wz := by
        rw [← hwz]
        exact (((((Kp.refl (fun _ => False) _).alloc _).alloc _).alloc _).alloc _).mapN (MapN.zero m w3) id
      have zL : wz.heap[w3.heap.size + 1]? = some (.cells #[.slice (some ⟨g, 0, none⟩) (m + 2) cap, .slice (some ⟨w3.heap.size + 1 + 1, 0, none⟩) (m + 2) (m + 2), .map (some w3.heap.size), .slice none 0 0, .slice (some ⟨w3.heap.size + 1 + 1 + 1, 0, none⟩) (m + 2) (m + 2), .slice (some ⟨w3.heap.size + 1 + 1 + 1 + 1, 0, none⟩) (m + 2) (m + 2), .slice none 0 0, .int .i64 0, .map none] 42 (0, 0)) := by
        rw [← hwz]
        refine (Below.heap_alloc _ _ _ (by simp <;> omega)).trans ((Below.heap_alloc _ _ _ (by simp <;> omega)).trans ((Below.heap_alloc _ _ _ (by simp)).trans (heap_new_at _ _ _ (by simp))))
      have zm : wz.rowIs (w3.heap.size + 1 + 1) 4 (m + 2) (fun _ => .bool false) := by
        rw [← hwz]
        have := World.rowIs_made ((w3.alloc (.map #[] 0)).alloc (.cells #[.slice (some ⟨g, 0, none⟩) (m + 2) cap, .slice (some ⟨w3.heap.size + 1 + 1, 0, none⟩) (m + 2) (m + 2), .map (some w3.heap.size), .slice none 0 0, .slice (some ⟨w3.heap.size + 1 + 1 + 1, 0, none⟩) (m + 2) (m + 2), .slice (some ⟨w3.heap.size + 1 + 1 + 1 + 1, 0, none⟩) (m + 2) (m + 2), .slice none 0 0, .int .i64 0, .map none] 42)) (.bool false) (m + 2) 4
        rw [show ((w3.alloc (.map #[] 0)).alloc (.cells #[.slice (some ⟨g, 0, none⟩) (m + 2) cap, .slice (some ⟨w3.heap.size + 1 + 1, 0, none⟩) (m + 2) (m + 2), .map (some w3.heap.size), .slice none 0 0, .slice (some ⟨w3.heap.size + 1 + 1 + 1, 0, none⟩) (m + 2) (m + 2), .slice (some ⟨w3.heap.size + 1 + 1 + 1 + 1, 0, none⟩) (m + 2) (m + 2), .slice none 0 0, .int .i64 0, .map none] 42)).heap.size = w3.heap.size + 1 + 1 by simp] at this
        exact (this.alloc _).alloc _
      have zr : wz.rowIs (w3.heap.size + 1 + 1 + 1) 33 (m + 2) (fun _ => .slice none 0 0) := by
        rw [← hwz]
        refine World.rowIs.alloc ?_ _
        obtain ⟨c, h1, h2⟩ := World.rowIs_made (((w3.alloc (.map #[] 0)).alloc (.cells #[.slice (some ⟨g, 0, none⟩) (m + 2) cap, .slice (some ⟨w3.heap.size + 1 + 1, 0, none⟩) (m + 2) (m + 2), .map (some w3.heap.size), .slice none 0 0, .slice (some ⟨w3.heap.size + 1 + 1 + 1, 0, none⟩) (m + 2) (m + 2), .slice (some ⟨w3.heap.size + 1 + 1 + 1 + 1, 0, none⟩) (m + 2) (m + 2), .slice none 0 0, .int .i64 0, .map none] 42)).alloc (.cells (madeCells #[.bool false] (m + 2)) 4)) (.slice none 0 0) (m + 2) 33
        refine ⟨c, ?_, h2⟩
        rw [← h1]
        congr 1
        simp
      have zu : wz.rowIs (w3.heap.size + 1 + 1 + 1 + 1) 33 (m + 2) (fun _ => .slice none 0 0) := by
        rw [← hwz]
        obtain ⟨c, h1, h2⟩ := World.rowIs_made ((((w3.alloc (.map #[] 0)).alloc (.cells #[.slice (some ⟨g, 0, none⟩) (m + 2) cap, .slice (some ⟨w3.heap.size + 1 + 1, 0, none⟩) (m + 2) (m + 2), .map (some w3.heap.size), .slice none 0 0, .slice (some ⟨w3.heap.size + 1 + 1 + 1, 0, none⟩) (m + 2) (m + 2), .slice (some ⟨w3.heap.size + 1 + 1 + 1 + 1, 0, none⟩) (m + 2) (m + 2), .slice none 0 0, .int .i64 0, .map none] 42)).alloc (.cells (madeCells #[.bool false] (m + 2)) 4)).alloc (.cells (madeCells #[.slice none 0 0] (m + 2)) 33)) (.slice none 0 0) (m + 2) 33
        refine ⟨c, ?_, h2⟩
        rw [← h1]
        congr 1
        simp
      rw [hwz]
      clear hwz
      obtain ⟨mp, hmp⟩ : ∃ mp, w3.heap.size = mp := ⟨_, rfl⟩
      rw [hmp] at zM zL zm zr zu ⊢
      obtain ⟨L, hL⟩ : ∃ L, mp + 1 = L := ⟨_, rfl⟩
      obtain ⟨mB, hmB⟩ : ∃ mB, mp + 1 + 1 = mB := ⟨_, rfl⟩
      obtain ⟨rB, hrB⟩ : ∃ rB, mp + 1 + 1 + 1 = rB := ⟨_, rfl⟩
      obtain ⟨uB, huB⟩ : ∃ uB, mp + 1 + 1 + 1 + 1 = uB := ⟨_, rfl⟩
      rw [huB, hrB, hmB] at zL
      rw [hmB] at zm
      rw [hrB] at zr
      rw [huB] at zu
      rw [hL] at zL
      rw [huB, hrB, hmB, hL]
      have hnm : ∀ j, j < m + 2 → wz.cell? ⟨g, j, none⟩ = some (.string (nmS m j)) := fun j hj => z0.cell (owns_cell AA.out.1 (names_get m j hM3 hj)) id
      have hg3 : g < mp := by rw [← hmp]; exact (World.ownsRow.lt AA.out.1 g rfl).2
      have ZZ := hide (And.intro z0 (And.intro zM (And.intro zL (And.intro zm (And.intro zr (And.intro zu (And.intro hnm hmp)))))))
      have hne : mB = L + 1 ∧ rB = L + 2 ∧ uB = L + 3 ∧ L = mp + 1 := by omega
      clear z0 zM zL zm zr zu hnm hmp hL hmB hrB huB
      have HNE := hide hne
      clear hne
      go_loopg [14] (m + 2) (fun kk iv wr => ∃ i : Nat, i + kk = m + 2 ∧ iv = .int .i64 i ∧ Hid (Kp (fun k => k = mp ∨ k = mB) wz wr ∧ wr.rowIs mB 4 (m + 2) (fun n => .bool (if n < i then decide (n < m) else false)) ∧ MapN m mp i wr))
      case atStart =>
        refine ⟨0, by omega, rfl, hide ⟨Kp.refl _ _, ZZ.out.2.2.2.1.congr ?_, ZZ.out.2.1⟩⟩
        intro n hn
        rw [if_neg (Nat.not_lt_zero _)]
      case round =>
        obtain ⟨i, hi, rfl, HQ⟩ := hrel
        obtain ⟨kp, rm, mn⟩ := HQ.out
        by_cases hli : i < m + 2
        · have hli' : (i : Int) < (m : Int) + 2 := by omega
          obtain ⟨n1, n2, n3, n4⟩ := HNE.out
          obtain ⟨w', hrun, mn', km⟩ := (show MapN m mp i wr.drew from mn).put hM3 hM1 hli
          have zl : wr.heap[L]? = _ := (kp.block L (by have := (Array.getElem?_eq_some_iff.1 ZZ.out.2.2.1).1; exact this) (by omega)).trans ZZ.out.2.2.1
          have l2 : wr.cell? ⟨L, 2, none⟩ = some (.map (some mp)) := by rw [cell_of_row wr L 2 _ _ _ zl]; rfl
          have cn := kp.cell (ZZ.out.2.2.2.2.2.2.1 i hli) (by show ¬ (g = mp ∨ g = mB); omega)
          have zl' : w'.heap[L]? = _ := (km.block L ((Array.getElem?_eq_some_iff.1 zl).1) (by omega)).trans zl
          have l1 : w'.cell? ⟨L, 1, none⟩ = some (.slice (some ⟨mB, 0, none⟩) (m + 2) (m + 2)) := by rw [cell_of_row w' L 1 _ _ _ zl']; rfl
          have rm' := km.rowIs (show wr.drew.rowIs mB 4 (m + 2) _ from rm) (by omega)
          have cm := rm'.cell hli
          have zm := rm'.frozen i
          have BB := hide (And.intro kp (And.intro rm' (And.intro mn' (And.intro km trivial))))
          clear kp rm mn mn' km zl zl' rm' HQ n1 n2 n3 n4
          go_wp2_with fail
          go_region
          go_wp2
          go_roundg (m + 2 - (i + 1))
          case measure => omega
          case rel =>
            obtain ⟨kp, rm', mn', km, _⟩ := BB.out
            have hne := HNE.out
            refine ⟨i + 1, by omega, by go_num, hide ⟨((kp.drew).trans' km (fun _ _ e => .inl e)).setCell (fun _ => .inr rfl) _, (rm'.set i _).congr ?_, (Kp.set1 _ mB i _).mapN mn' (by omega)⟩⟩
            intro n hn
            by_cases e : n = i
            · rw [if_pos e, e, if_pos (by omega)]
            · rw [if_neg e]
              by_cases e2 : n < i
              · rw [if_pos e2, if_pos (by omega)]
              · rw [if_neg e2, if_neg (by omega)]
        · have hnli : ¬ ((i : Int) < (m : Int) + 2) := by omega
          obtain rfl : i = m + 2 := by omega
          obtain ⟨n1, n2, n3, n4⟩ := HNE.out
          obtain ⟨z0, zM, zL, zm, zr, zu, hnm, hmp⟩ := ZZ.out
          have ka : Kp (fun _ => False) wr (wr.alloc (.cells #[] 3)) := (Kp.refl _ _).alloc _
          have hop : (wr.alloc (.cells #[] 3)).ownsRow 0 3 1 (.slice (some ⟨wr.heap.size, 0, none⟩) 0 0) 0 [] := ⟨rfl, .inr ⟨_, _, _, rfl, Nat.zero_le _, heap_new wr _ 3, Nat.zero_le _, by unfold maxLen; omega, rfl, rfl⟩⟩
          have hbk := HK.out.1
          have kw3 : Kp (fun _ => False) w2 w3 := (HK.out.2.alloc _).trans' AA.out.2.1 (fun i hi e => by have := hbk i e; omega)
          have hw3 := kw3.size
          have kwr : Kp (fun _ => False) w2 wr := (kw3.trans z0).trans' kp (by
            rintro i hi (e | e) <;> omega)
          have hgw2 : w2.heap.size ≤ g := by
            rcases AA.out.2.2 with h | h
            · exact hbk g h
            · have := HK.out.2.size
              have h2 : (wn.alloc (.cells #[.string (tbS 3), .string (tbS 4)] 9)).heap.size = wn.heap.size + 1 := by simp
              omega
          have hzs := z0.size
          have hkps := kp.size
          have huBl := zu.lt
          have ini := BS_init (L := L) (mB := mB) (rB := rB) (uB := uB) (mp := mp) (g := g) (cap := cap) (P0 := wr.heap.size) hM3 (kwr.trans ka) ((ka.block L (by have := (Array.getElem?_eq_some_iff.1 zL).1; omega) id).trans ((kp.block L ((Array.getElem?_eq_some_iff.1 zL).1) (by omega)).trans zL)) (ka.rowIs (rm.congr (fun n hn => by rw [if_pos hn])) id) (ka.rowIs (kp.rowIs zr (by omega)) id) (ka.rowIs (kp.rowIs zu (by omega)) id) (ka.mapIs mn.is id) (ka.owns (kp.owns (z0.owns AA.out.1 (fun _ _ => id)) (by
            intro j e
            have : g = j := by simpa [Value.ownBlock] using e
            omega)) (fun _ _ => id)) hop ⟨n4, n1, n2, n3, hg3, by omega, hgw2⟩
          have INI := hide ini
          clear ini hop ka kwr kw3 hbk hw3 hgw2 hzs hkps huBl z0 zM zL zm zr zu hnm hmp n1 n2 n3 n4 kp rm mn HQ ZZ
          go_wp2_with fail
          obtain ⟨wi, rfl⟩ : ∃ wi, wi = wr := ⟨_, rfl⟩
          go_loopg [15, 16] m (fun kk pvv iv wr => ∃ q : Nat, q + kk = m ∧ iv = .int .i64 q ∧ Hid (∃ x p vc, BS m L (.slice (some ⟨g, 0, none⟩) (m + 2) cap) w2 pvv x p vc wr ∧ p.nV ≤ 3 * q ∧ (∀ n, (p.revs n).length ≤ 3) ∧ (∀ n, q ≤ n → p.revs n = []) ∧ (∀ n, p.runs n = []) ∧ (∀ v, x.rd v = false) ∧ x.ow 2 = .slice none 0 0 ∧ x.vs 2 = [] ∧ x.rB = rB ∧ x.uB = uB))
          case atStart =>
            obtain ⟨x, p, vc, hbs, a1, a2, a3, a4, a5, a6, a7, a8⟩ := INI.out
            exact ⟨0, by omega, rfl, hide ⟨x, p, vc, hbs, by omega, fun n => by rw [a2 n]; exact Nat.zero_le _, fun n _ => a2 n, a3, a4, a5, a6, a7, a8⟩⟩
          case round =>
            obtain ⟨q, hq, rfl, HQ⟩ := hrel
            by_cases hlq : q < m
            · have hlq' : (q : Int) < (m : Int) := by omega
              have hq3 : (q : Int) < 3 := by omega
              have hq5 : (q : Int) < (m : Int) + 2 := by omega
              obtain ⟨rq, hrq⟩ : ∃ rq : Nat, (if q = 0 then r0 else if q = 1 then r1 else r2) = rq := ⟨_, rfl⟩
              have hrq2 : rq < 256 := by rw [← hrq]; split <;> (try split) <;> assumption
              have cR : wr.cell? ⟨w.heap.size, q, none⟩ = some (.int .u8 (rq : Int)) := by
                obtain ⟨x, p, vc, hbs, _⟩ := HQ.out
                rw [hbs.kp.cell (HH.out.2.1 q (by omega)) id, hrq]
              obtain ⟨cn, hcn⟩ : ∃ cn : Nat, rq % 4 = cn := ⟨_, rfl⟩
              have e4 : (rq : Int) % 4 = (cn : Int) := by omega
              have hcn3 : cn ≤ 3 := by omega
              clear hrq hcn
              go_wp2_with fail
              clear e4 cR
              obtain ⟨wj, rfl⟩ : ∃ wj, wj = wr := ⟨_, rfl⟩
              go_loopg [15, 18] cn (fun kk pvv iv wr => ∃ r : Nat, r + kk = cn ∧ iv = .int .i64 r ∧ Hid (R4 m L g cap q w2 rB uB r pvv wr))
              case atStart =>
                obtain ⟨x, p, vc, hbs, a1, a2, a3, a4, a5, a6, a7, a8⟩ := HQ.out
                exact ⟨0, by omega, rfl, hide ⟨x, p, vc, hbs, by omega, a2, by rw [a3 q (Nat.le_refl _)]; rfl, fun n hn => a3 n (by omega), a4, a5, a6, a7, a8⟩⟩
              case round =>
                obtain ⟨r, hr, rfl, HR⟩ := hrel
                by_cases hlr : r < cn
                · have hlr' : (r : Int) < (cn : Int) := by omega
                  obtain ⟨x, p, vc, hbs, a1, a2, a2', a3, a4, a5, a6, a7, a8, a9⟩ := HR.out
                  obtain ⟨ao0, c0, hv0, _⟩ := owns_form (hbs.bp.sl.own 0)
                  obtain ⟨nV, hnV⟩ : ∃ nV, p.nV = nV := ⟨_, rfl⟩
                  have hnV9 : nV ≤ 9 := by omega
                  rw [hbs.bl.c0, hnV] at hv0
                  have l3 := hbs.bp.lc.2.2.2.1
                  rw [hbs.hL, hv0] at l3
                  have HB := hide (And.intro hbs (And.intro hv0 (And.intro hnV (And.intro a1 (And.intro a2 (And.intro a2' (And.intro a3 (And.intro a4 (And.intro a5 (And.intro a6 (And.intro a7 (And.intro a8 a9))))))))))))
                  have O0 := hide (show wr.ownsRow 0 99 5 (.slice ao0 nV c0) nV (x.vs 0) from by have := hbs.bp.sl.own 0; rw [hv0, hbs.bl.c0, hnV] at this; exact this)
                  clear hbs hv0 hnV a1 a2 a2' a3 a4 a5 a6 a7 a8 a9 HR
                  go_wp2_with (at_builtin; (refine wpList_app _ rfl (.tmp 134) (.tmp 141) 39 99 rfl Yba.underlying39 (.agg #[.int .i32 0, .string ⟨#[]⟩, .int .i64 0, .pointer none, .slice none 0 0]) 5 64 info99 rfl (by omega) (by omega) (.slice ao0 nV c0) nV (x.vs 0) rfl (World.ownsRow.alloc O0.out _) wr.heap.size [.int .i32 (q : Int), .string ⟨#[114]⟩, .int .i64 ((nV : Int) + 1), .pointer none, .slice none 0 0] (heap_new_at _ _ _ rfl) rfl rfl (by simp [Value.oneCell']) (by omega) ?_))
                  intro g0 c0' w4 hown0 hkp0 hat0 hlt0
                  obtain ⟨hbs, hv0, hnV, a1, a2, a2', a3, a4, a5, a6, a7, a8, a9⟩ := HB.out
                  have kwa : Kp (fun k => (x.ow 0).ownBlock = some k) wr w4 := by rw [hv0]; exact ((Kp.refl _ _).alloc _).trans hkp0
                  have hat0' : (x.ow 0).ownBlock = some g0 ∨ wr.heap.size ≤ g0 := by
                    rw [hv0]
                    rcases hat0 with h | h
                    · exact .inl h
                    · have e : (wr.alloc (.cells #[.int .i32 (q : Int), .string ⟨#[114]⟩, .int .i64 ((nV : Int) + 1), .pointer none, .slice none 0 0] 99)).heap.size = wr.heap.size + 1 := by simp
                      exact .inr (by omega)
                  have hLf := hbs.bp.f.1
                  rw [hbs.hL] at hLf
                  have nfL : ∀ i, ¬ (x.ow i).ownBlock = some L := fun i e => (hbs.bp.sl.nf i L e).1 hLf
                  have lc := hbs.bp.lc
                  rw [hbs.hL] at lc
                  have l3' := kwa.cell lc.2.2.2.1 (nfL 0)
                  have z3' := kwa.frozen lc.2.2.2.1 (lc.2.2.2.2.2.2 3) (nfL 0)
                  have b1 := hbs.bp.app0 hown0 kwa hat0'
                  rw [hbs.hL] at b1
                  have O1 : (w4.setCell ⟨L, 3, none⟩ (.slice (some ⟨g0, 0, none⟩) (nV + 1) c0')).ownsRow 0 3 1 u15 nV (x.vs 1) := by
                    have := b1.sl.own 1
                    dsimp only at this
                    rw [up_ne _ _ (by omega), up_ne _ _ (by omega), up_ne _ _ (by omega), hbs.pv, hbs.bl.c1, hnV] at this
                    exact this
                  have HC := hide (And.intro hown0 (And.intro kwa (And.intro hat0' b1)))
                  have HO1 := hide O1
                  clear hbs hv0 hnV a1 a2 a2' a3 a4 a5 a6 a7 a8 a9 kwa hat0' hLf nfL lc b1 O1 hown0 hkp0 hat0 hlt0 l3
                  go_wp2_with (at_builtin; (refine wpList_app _ rfl (.tmp 145) (.tmp 149) 28 3 rfl Yba.underlying28 (.int .i64 0) 1 8 info3 rfl (by omega) (by omega) u15 nV (x.vs 1) rfl (World.ownsRow.alloc HO1.out _) w4.heap.size [.int .i64 ((nV : Int) + 1)] (heap_new_at _ _ _ (by simp)) rfl rfl (by simp [Value.oneCell']) (by omega) ?_))
                  intro g1 c1 w6 hown1 hkp1 hat1 hlt1
                  obtain ⟨hbs, hv0, hnV, a1, a2, a2', a3, a4, a5, a6, a7, a8, a9⟩ := HB.out
                  obtain ⟨hown0, kwa, hat0', b1⟩ := HC.out
                  have kw1 : Kp (fun k => (x.ow 1).ownBlock = some k) (w4.setCell ⟨L, 3, none⟩ (.slice (some ⟨g0, 0, none⟩) (nV + 1) c0')) w6 := by rw [hbs.pv]; exact ((Kp.refl _ _).alloc _).trans hkp1
                  have hat1' : (x.ow 1).ownBlock = some g1 ∨ (w4.setCell ⟨L, 3, none⟩ (.slice (some ⟨g0, 0, none⟩) (nV + 1) c0')).heap.size ≤ g1 := by
                    rw [hbs.pv]
                    rcases hat1 with h | h
                    · exact .inl h
                    · have e : ((w4.setCell ⟨L, 3, none⟩ (.slice (some ⟨g0, 0, none⟩) (nV + 1) c0')).alloc (.cells #[.int .i64 ((nV : Int) + 1)] 3)).heap.size = (w4.setCell ⟨L, 3, none⟩ (.slice (some ⟨g0, 0, none⟩) (nV + 1) c0')).heap.size + 1 := by simp
                      have e' : (w4.setCell ⟨L, 3, none⟩ (.slice (some ⟨g0, 0, none⟩) (nV + 1) c0')).heap.size = w4.heap.size := Deep.nblk_setCell _ _ _
                      exact .inr (by omega)
                  have b2 := b1.app 1 (by omega) (by omega) (fun n _ => by omega) (fun n _ => by omega) (g := g1) (cap := c1) (n' := nV + 1) (xs' := x.vs 1 ++ [.int .i64 ((nV : Int) + 1)]) hown1 (by dsimp only; rw [up_ne _ _ (by omega)]; exact kw1) (by dsimp only; rw [up_ne _ _ (by omega)]; exact hat1')
                  have eq3 : ∀ {α : Type} (f : Nat → α) (a b : α), up (up f 0 a) 1 b (3 + q) = f (3 + q) := fun f a b => by rw [up_ne _ _ (by omega), up_ne _ _ (by omega)]
                  have l4 := b2.lc.2.2.2.2.1
                  dsimp only at l4
                  rw [a8] at l4
                  have rc := b2.rv.cell (i := q) (by omega)
                  have rz := b2.rv.frozen q
                  have rrow := b2.rv
                  dsimp only at rc rz rrow
                  rw [a8, eq3] at rc
                  rw [a8] at rz rrow
                  have O2 : w6.ownsRow 0 48 1 (x.ow (3 + q)) r (x.vs (3 + q)) := by
                    have := b2.sl.own (3 + q)
                    dsimp only at this
                    rw [eq3, eq3, eq3, tyS_else (by omega) (by omega) (by omega), szS_else (by omega)] at this
                    have hl := this.1
                    rw [hbs.bl.r q (by omega), i32s_length, a2'] at hl
                    rw [show x.ct (3 + q) = r by omega] at this
                    exact this
                  have nrB : ¬ (x.ow (3 + q)).ownBlock = some rB := fun e => (hbs.bp.sl.nf _ _ e).1 (a8 ▸ hbs.bp.f.2.2.1)
                  have nL : ¬ (x.ow (3 + q)).ownBlock = some L := fun e => (hbs.bp.sl.nf _ _ e).1 (hbs.hL ▸ hbs.bp.f.1)
                  have HD := hide (And.intro kw1 (And.intro hat1' (And.intro hown1 b2)))
                  have HO2 := hide O2
                  have RROW : Hid (∃ f, w6.rowIs rB 33 (m + 2) f) := hide ⟨_, rrow⟩
                  have nLr : L ≠ rB := by have := hbs.bp.ne.2.1; rw [hbs.hL, a8] at this; exact this
                  obtain ⟨vr, hvr⟩ : ∃ vr, x.ow (3 + q) = vr := ⟨_, rfl⟩
                  rw [hvr] at rc HO2 nrB nL
                  have HVR := hide hvr
                  clear hbs hv0 hnV a1 a2 a2' a3 a4 a5 a6 a7 a8 a9 hown0 kwa hat0' b1 kw1 hat1' b2 eq3 O2 hown1 hkp1 hat1 hlt1 rrow l3' z3' hvr
                  have ka6 : Kp (fun _ => False) w6 (w6.alloc (.cells #[.int .i32 (nV : Int)] 48)).drew := ((Kp.refl _ _).alloc _).drew
                  have l4a : (w6.alloc (.cells #[.int .i32 (nV : Int)] 48)).cell? ⟨L, 4, none⟩ = _ := ka6.cell l4 id
                  have rca : (w6.alloc (.cells #[.int .i32 (nV : Int)] 48)).cell? ⟨rB, q, none⟩ = _ := ka6.cell rc id
                  have rza : (w6.alloc (.cells #[.int .i32 (nV : Int)] 48)).frozen? ⟨rB, q, none⟩ = false := ka6.frozen rc rz id
                  obtain ⟨g2, c2, w7, hrun, hown2, hkp2, hat2, hlt2⟩ := run_app (w6.alloc (.cells #[.int .i32 (nV : Int)] 48)).drew 33 33 48 Yba.underlying33 (.int .i32 0) 1 4 info48 rfl (by omega) (by omega) vr r (x.vs (3 + q)) (ka6.owns HO2.out (fun _ _ => id)) w6.heap.size [.int .i32 (nV : Int)] (heap_new w6 _ 48) rfl (by simp [Value.oneCell']) (by omega)
                  have l4' := hkp2.cell (show _ = some _ from l4a) nL
                  have rc' := hkp2.cell (show _ = some _ from rca) nrB
                  have rz' := hkp2.frozen (show _ = some _ from rca) rza nrB
                  have HR2 := hide (And.intro hown2 (And.intro hkp2 (And.intro hat2 hlt2)))
                  clear hown2 hkp2 hat2 hlt2 ka6 rza
                  go_wp2_with fail
                  go_region
                  all_goals (go_wp2; go_roundg (cn - (r + 1)))
                  all_goals first
                    | omega
                    | (refine ⟨r + 1, by omega, by go_num, ?_⟩
                       obtain ⟨hbs, hv0, hnV, a1, a2, a2', a3, a4, a5, a6, a7, a8, a9⟩ := HB.out
                       obtain ⟨hown2, hkp2, hat2, hlt2⟩ := HR2.out
                       obtain ⟨hown0, kwa, hat0', b1⟩ := HC.out
                       obtain ⟨kw1, hat1', hown1, b2⟩ := HD.out
                       have hvr := HVR.out
                       subst hnV
                       have kw2 : Kp (fun k => (x.ow (3 + q)).ownBlock = some k) w6 w7 := by rw [hvr]; exact (((Kp.refl _ _).alloc _).drew).trans hkp2
                       have hat2' : (x.ow (3 + q)).ownBlock = some g2 ∨ w6.heap.size ≤ g2 := by
                         rw [hvr]
                         rcases hat2 with h | h
                         · exact .inl h
                         · have e : ((w6.alloc (.cells #[.int .i32 (p.nV : Int)] 48)).drew).heap.size = w6.heap.size + 1 := by simp [World.drew]
                           exact .inr (by omega)
                       rw [← a2'] at hown2
                       obtain ⟨x', vc', hbs', f1, f2, f3, f4, f5, f6⟩ := hbs.rev hM3 (by omega) hlq rfl hown0 kwa hat0' hown1 kw1 hat1' hown2 kw2 hat2'
                       rw [a8, a2'] at hbs'
                       exact hide (R4.of hbs' (by omega) a1 a2 a2' a3 a4 a5 a6 a7 a8 a9 f2 f3 f4 f5 f6))
                · have hnlr : ¬ ((r : Int) < (cn : Int)) := by omega
                  go_wp2
                  go_roundg (m - (q + 1))
                  case measure => omega
                  case rel =>
                    obtain ⟨x, p, vc, hbs, a1, a2, a2', a3, a4, a5, a6, a7, a8⟩ := HR.out
                    exact ⟨q + 1, by omega, by go_num, hide ⟨x, p, vc, hbs, by omega, a2, a3, a4, a5, a6, a7, a8⟩⟩
            · have hnlq : ¬ ((q : Int) < (m : Int)) := by omega
              obtain rfl : m = q := by omega
              go_wp2_with fail
              obtain ⟨wc, rfl⟩ : ∃ wc, wc = wr := ⟨_, rfl⟩
              have R5i : R5 m L g cap w2 rB uB wc.heap.size 0 u15 (wc.alloc (.cells #[.int .i64 0, .int .i64 0] 100)) := by
                obtain ⟨x, p, vc, hbs, a1, a2, a3, a4, a5, a6, a7, a8, a9⟩ := HQ.out
                have ka : Kp (fun _ => False) wc (wc.alloc (.cells #[.int .i64 0, .int .i64 0] 100)) := (Kp.refl _ _).alloc _
                have hsz : (wc.alloc (.cells #[.int .i64 0, .int .i64 0] 100)).heap.size = wc.heap.size + 1 := by simp
                have hfl := hbs.bp.sl.fl
                have hf := hbs.bp.f
                refine ⟨_, p, vc, fun _ => 0, hbs.addfz ka wc.heap.size (Nat.le_refl _) (by omega), by omega, a2, fun n => by rw [a4 n]; exact Nat.le_refl _, a6, a7, a8, a9, ⟨.inr rfl, ⟨?_, ?_, ?_, ?_, ?_⟩, fun v hv => ?_, ?_⟩, fun j => Nat.le_refl _⟩
                · have := (hfl _ hf.1).1; dsimp only; omega
                · have := (hfl _ hf.2.1).1; dsimp only; omega
                · have := (hfl _ hf.2.2.1).1; dsimp only; omega
                · have := (hfl _ hf.2.2.2.1).1; dsimp only; omega
                · have := (hfl _ hf.2.2.2.2).1; dsimp only; omega
                · have h9 : x.rd v = true := hv
                  rw [a5 v] at h9; cases h9
                · refine World.rowIs_alloc wc _ _ _ ?_
                  intro i hi
                  have hi : i < 2 := hi
                  rcases (by omega : i = 0 ∨ i = 1) with e | e <;> subst e <;> rfl
              have R5I := hide R5i
              clear R5i HQ
              obtain ⟨cB, hcB⟩ : ∃ cB, wc.heap.size = cB := ⟨_, rfl⟩
              rw [hcB] at R5I ⊢
              clear hcB
              go_loopg [15, 170] rn (fun kk pvv iv wr => ∃ p : Nat, p + kk = rn ∧ iv = .int .i64 p ∧ Hid (R5 m L g cap w2 rB uB cB p pvv wr))
              case atStart => exact ⟨0, by omega, rfl, R5I⟩
              case round =>
                obtain ⟨p, hp, rfl, HQ⟩ := hrel
                by_cases hlp : p < rn
                · have hlp' : (p : Int) < (rn : Int) := by omega
                  obtain ⟨rb, ro, a, rfl, hrb, hrun⟩ := hruns p hlp
                  have hruns2 := HH.out.1
                  obtain ⟨x, pd, vc, cf, hbs, a1, a2, a3, a4, a5, a6, a7, a8, a9⟩ := HQ.out
                  have kwr := (HH.out.1.trans hbs.kp)
                  obtain ⟨hpi, hrv, e0, e1, e2, e3, e4, e5, e6, e7⟩ := hrun
                  have e0 := kwr.cell e0 id
                  have e1 := kwr.cell e1 id
                  have e2 := kwr.cell e2 id
                  have e3 := kwr.cell e3 id
                  have e4 := kwr.cell e4 id
                  have e5 := kwr.cell e5 id
                  have e6 := kwr.cell e6 id
                  have e7 := kwr.cell e7 id
                  have HB := hide (And.intro hbs (And.intro a1 (And.intro a2 (And.intro a3 (And.intro a4 (And.intro a5 (And.intro a6 (And.intro a7 (And.intro a8 (And.intro a9 hrv))))))))))
                  have HRN := hide hruns
                  clear hbs a1 a2 a3 a4 a5 a6 a7 a8 a9 HQ hrv hruns hruns2 kwr
                  obtain ⟨ci, hci⟩ : ∃ ci : Nat, a.pi % 2 = ci := ⟨_, rfl⟩
                  have hci2 : ci < 2 := by omega
                  have hci2' : (ci : Int) < 2 := by omega
                  have eci : (a.pi : Int) % 2 = (ci : Int) := by omega
                  obtain ⟨rr, hrr⟩ : ∃ rr, wr.heap.size = rr := ⟨_, rfl⟩
                  obtain ⟨wA, hwA⟩ : ∃ wA, wr.alloc (.cells #[.int .u8 (a.pi : Int), .bool a.pa, .bool (a.us 0), .bool (a.us 1), .bool (a.us 2), .int .u8 (a.rv 0 : Int), .int .u8 (a.rv 1 : Int), .int .u8 (a.rv 2 : Int)] 103) = wA := ⟨_, rfl⟩
                  have kA : Kp (fun _ => False) wr wA := hwA ▸ (Kp.refl _ _).alloc _
                  have rA : wA.rowIs rr 103 8 (rcell a) := by
                    rw [← hwA, ← hrr]
                    refine World.rowIs_alloc wr _ _ _ ?_
                    intro i hi
                    have hi : i < 8 := hi
                    rcases (by omega : i = 0 ∨ i = 1 ∨ i = 2 ∨ i = 3 ∨ i = 4 ∨ i = 5 ∨ i = 6 ∨ i = 7) with e | e | e | e | e | e | e | e <;> subst e <;> rfl
                  obtain ⟨c1, hc1⟩ : ∃ c1, cf ci = c1 := ⟨_, rfl⟩
                  have hcrow := kA.rowIs HB.out.2.2.2.2.2.2.2.2.1.2.2.2 id
                  have cc := hcrow.cell hci2
                  have cz := hcrow.frozen ci
                  rw [hc1] at cc
                  have hc10 : (c1 : Int) ≤ 10 := by
                    have := HB.out.2.2.2.2.2.2.2.2.2.1 ci
                    omega
                  have hw' := hide hwA
                  rw [← hwA] at cc cz
                  have r0' : wA.cell? ⟨rr, 1, none⟩ = some (.bool a.pa) := rA.cell (i := 1) (by omega)
                  have HA := hide (And.intro kA (And.intro rA (And.intro hcrow (And.intro hrr hc1))))
                  clear kA rA hcrow hc1 hwA hci
                  have hcr : rr ≠ cB := by
                    have h1 := HB.out.2.2.2.2.2.2.2.2.1.2.2.2.lt
                    omega
                  have r1' : (wA.setCell ⟨cB, ci, none⟩ (.int .i64 ((c1 : Int) + 1))).cell? ⟨rr, 1, none⟩ = some (.bool a.pa) := (Kp.set1 wA cB ci _).cell r0' hcr
                  rw [← hw'.out] at r1'
                  rw [← hrr] at r1'
                  clear hrr r0'
                  go_upto_if 187 with fail
                  go_cut [25] (fun sv wx => sv = .string (if a.pa then strPassed else strFailed) ∧ wx = (wr.alloc (.cells #[.int .u8 (a.pi : Int), .bool a.pa, .bool (a.us 0), .bool (a.us 1), .bool (a.us 2), .int .u8 (a.rv 0 : Int), .int .u8 (a.rv 1 : Int), .int .u8 (a.rv 2 : Int)] 103)).setCell ⟨cB, ci, none⟩ (.int .i64 ((c1 : Int) + 1)))
                  case first =>
                    cases hpa : a.pa with
                    | true =>
                      rw [hpa] at r1'
                      go_wp2_with fail
                      go_meet
                      exact ⟨by rw [hpa]; rfl, by rw [hpa]⟩
                    | false =>
                      rw [hpa] at r1'
                      go_wp2_with fail
                      go_meet
                      exact ⟨by rw [hpa]; rfl, by rw [hpa]⟩
                  case rest =>
                    obtain ⟨rfl, rfl⟩ := hcut
                    obtain ⟨sv, hsv⟩ : ∃ sv, (if a.pa then strPassed else strFailed) = sv := ⟨_, rfl⟩
                    rw [hsv]
                    have HSV := hide hsv
                    clear hsv e0 e1 e2 e3 e4 e5 e6 e7 cc cz r1' eci
                    go_wp2_with fail
                    obtain ⟨wB, hwB⟩ : ∃ wB, (wr.alloc (.cells #[.int .u8 (a.pi : Int), .bool a.pa, .bool (a.us 0), .bool (a.us 1), .bool (a.us 2), .int .u8 (a.rv 0 : Int), .int .u8 (a.rv 1 : Int), .int .u8 (a.rv 2 : Int)] 103)).setCell ⟨cB, ci, none⟩ (.int .i64 ((c1 : Int) + 1)) = wB := ⟨_, rfl⟩
                    rw [hwB]
                    have R6i : R6 m L g cap w2 rB uB cB rr a pd vc (up cf ci (c1 + 1)) u15 0 (.slice none 0 0) 0 wB := by
                      obtain ⟨hbs, a1, a2, a3, a4, a5, a6, a7, a8, a9, hrv⟩ := HB.out
                      obtain ⟨kA, rA, hcrow, hrr, hc1⟩ := HA.out
                      rw [hw'.out] at hwB
                      have hlt := rA.lt
                      obtain ⟨b1, b2, b3, b4⟩ := a8
                      have ks : Kp (fun k => k = cB) wA wB := hwB ▸ Kp.set1 wA cB ci _
                      have hb := (hbs.addfz kA rr (by omega) hlt).oth ks (.inl b1) b2 b3
                      refine ⟨_, [], hb, a4, a5, fun u hu => (by cases hu), List.nodup_nil, Nat.le_refl _, by omega, a6, a7, ⟨.inl b1, b2, b3, ?_⟩, .inr rfl, ks.rowIs rA hcr⟩
                      rw [← hwB]
                      refine (hcrow.set ci _).congr ?_
                      intro j hj
                      unfold up
                      by_cases e : j = ci
                      · rw [if_pos e, if_pos e]; rfl
                      · rw [if_neg e, if_neg e]
                    have R6I := hide R6i
                    clear R6i hwB
                    have hrr := HA.out.2.2.2.1
                    rw [hrr]
                    clear hrr
                    go_loopg [26, 27, 28] m (fun kk iv psv mv wr => ∃ (mm ps : Nat), mm + kk = m ∧ mv = .int .i64 mm ∧ psv = .int .i64 ps ∧ Hid (R6 m L g cap w2 rB uB cB rr a pd vc (up cf ci (c1 + 1)) u15 mm iv ps wr))
                    case atStart => exact ⟨0, 0, by omega, rfl, rfl, R6I⟩
                    case round =>
                      obtain ⟨mm, ps, hmm, rfl, rfl, HQ⟩ := hrel
                      by_cases hlm : mm < m
                      · have hlm' : (mm : Int) < (m : Int) := by omega
                        have hlm3 : (mm : Int) < 3 := by omega
                        have hlm5 : (mm : Int) < (m : Int) + 2 := by omega
                        obtain ⟨x6, l, hbs, b1, b2, b3, b4, b5, b6, b7, b8, b9, b10, b11⟩ := HQ.out
                        have rf := hbs.r6f hM3 hlm b2 b11
                        rw [b7] at rf
                        obtain ⟨cnt, hcnt⟩ : ∃ cnt, (pd.revs mm).length = cnt := ⟨_, rfl⟩
                        have hcnt3 : cnt ≤ 3 := by have := HB.out.2.2.1 mm; omega
                        obtain ⟨aoR, cR, hfR, _, hfR2, _⟩ := owns_form rf.o3
                        rw [hcnt] at hfR
                        have l4 := rf.l4
                        have rc := rf.rc
                        rw [hfR] at rc
                        have ru := rf.ru
                        by_cases huse : a.us mm = true ∧ 0 < cnt
                        · obtain ⟨hus, hc0⟩ := huse
                          rw [hus] at ru
                          have hc0' : (0 : Int) < (cnt : Int) := by omega
                          have hc0n : ¬ ((cnt : Int) = 0) := by omega
                          obtain ⟨gR, rfl⟩ : ∃ gR, aoR = some ⟨gR, 0, none⟩ := hfR2 (by omega)
                          have rw5 := rf.rw
                          have hrv := HB.out.2.2.2.2.2.2.2.2.2.2 mm
                          obtain ⟨vm, hvm⟩ : ∃ vm, a.rv mm = vm := ⟨_, rfl⟩
                          rw [hvm] at rw5 hrv
                          obtain ⟨ix, hix⟩ : ∃ ix, vm % cnt = ix := ⟨_, rfl⟩
                          have hixc : ix < cnt := by rw [← hix]; exact Nat.mod_lt _ hc0
                          have hixc' : (ix : Int) < (cnt : Int) := by omega
                          have eix : (vm : Int) % (cnt : Int) = (ix : Int) := by rw [← hix]; first | exact (Int.natCast_emod _ _).symm | exact (Int.ofNat_emod _ _).symm | simp
                          have etm : Int.tmod (vm : Int) (cnt : Int) = (ix : Int) := by rw [Int.tmod_eq_emod_of_nonneg (by omega)]; exact eix
                          obtain ⟨u, hu⟩ : ∃ u, (pd.revs mm).getD ix 0 = u := ⟨_, rfl⟩
                          have hum : u ∈ pd.revs mm := by
                            rw [← hu, List.getD_eq_getElem?_getD, List.getElem?_eq_getElem (by omega)]
                            exact List.getElem_mem _
                          have cu : wr.cell? ⟨gR, ix, none⟩ = some (.int .i32 (u : Int)) := by
                            have h9 := rf.o3
                            rw [hcnt, hfR] at h9
                            have h8 := owns_cell h9 (i32s_get (pd.revs mm) ix (by omega))
                            rw [hu] at h8
                            exact h8
                          obtain ⟨u1, u2, u3⟩ := hbs.bl.rv mm hlm u hum
                          obtain ⟨p2a, p2b⟩ := hbs.bl.a2 u u1 (by omega)
                          obtain ⟨ao0, c0, hf0, _, hf02, _⟩ := owns_form rf.o0
                          obtain ⟨g0, rfl⟩ := hf02 (by omega)
                          obtain ⟨nV, hnV⟩ : ∃ nV, pd.nV = nV := ⟨_, rfl⟩
                          have l3 := rf.l3
                          rw [hf0, hnV] at l3
                          have u1' : (u : Int) < (nV : Int) := by omega
                          have hnV19 : nV ≤ 19 := by have := HB.out.2.1; omega
                          obtain ⟨pu, hpu⟩ : ∃ pu, pd.psn u = pu := ⟨_, rfl⟩
                          have cpos : wr.cell? ⟨g0, u * 5 + 2, none⟩ = some (.int .i64 (pu : Int)) := by
                            have h9 := rf.o0
                            rw [hf0] at h9
                            refine owns_cell h9 ?_
                            rw [hbs.bl.v0 u u1 2 (by omega), p2a, hpu]
                          rw [hpu] at p2b
                          obtain ⟨n2, hn2⟩ : ∃ n2, l.length = n2 := ⟨_, rfl⟩
                          have O2 : wr.ownsRow 0 48 1 u26 n2 (i32s l) := by have := rf.o2; rw [b1, hn2] at this; exact this
                          have HO2 := hide O2
                          have nf0 : ¬ (x6.ow 2).ownBlock = some g0 := fun e => hbs.bp.sl.ne 2 0 g0 (by omega) e (by rw [hf0]; rfl)
                          have nfL : ¬ (x6.ow 2).ownBlock = some L := fun e => (hbs.bp.sl.nf 2 L e).1 (hbs.hL ▸ hbs.bp.f.1)
                          have HT := hide (And.intro hbs (And.intro b1 (And.intro b2 (And.intro b3 (And.intro b4 (And.intro b5 (And.intro b6 (And.intro b7 (And.intro b8 (And.intro b9 (And.intro b10 (And.intro b11 (And.intro hum (And.intro hn2 (And.intro nf0 nfL)))))))))))))))
                          have hn2m : n2 ≤ 3 := by omega
                          clear hbs b1 b2 b3 b4 b5 b6 b7 b8 b9 b10 b11 rf hcnt hfR hfR2 HQ hus hvm hix hu hum u1 u2 u3 p2a hf0 hf02 hnV hpu hn2 O2 nf0 nfL
                          go_wp2_with fail
                          go_quiet (fail)
                          go_wp2_with (at_builtin; (refine wpList_app _ rfl (.tmp 225) (.tmp 227) 33 48 rfl Yba.underlying33 (.int .i32 0) 1 4 info48 rfl (by omega) (by omega) u26 n2 (i32s l) rfl (World.ownsRow.alloc HO2.out _) wr.heap.size [.int .i32 (u : Int)] (heap_new_at _ _ _ rfl) rfl rfl (by simp [Value.oneCell']) (by omega) ?_))
                          intro g2 c2 w8 hown2 hkp2 hat2 hlt2
                          obtain ⟨hbs, b1, b2, b3, b4, b5, b6, b7, b8, b9, b10, b11, hum, hn2, nf0, nfL⟩ := HT.out
                          have kw : Kp (fun k => (x6.ow 2).ownBlock = some k) wr w8 := by rw [b1]; exact (((Kp.refl _ _).drewN nq).alloc _).trans hkp2
                          have hat' : (x6.ow 2).ownBlock = some g2 ∨ wr.heap.size ≤ g2 := by
                            rw [b1]
                            rcases hat2 with h | h
                            · exact .inl h
                            · have e : ((wr.drewN nq).alloc (.cells #[.int .i32 (u : Int)] 48)).heap.size = wr.heap.size + 1 := by simp [World.drewN]
                              exact .inr (by omega)
                          have l3' := kw.cell l3 nfL
                          have cpos' := kw.cell cpos nf0
                          subst hn2
                          have RT := hide (fun ps' hps => R6.take (ps := ps) (ps' := ps') hM3 hlm hbs b2 b3 b4 b5 hps b7 b8 b9 b10 b11 hum hown2 kw hat')
                          have hps := b6
                          clear hbs b1 b2 b3 b4 b5 b6 b7 b8 b9 b10 b11 hum nf0 nfL kw hat' hown2 hkp2 hat2 hlt2 l3 cpos
                          by_cases hgt : ps < pu
                          · have hgt' : (ps : Int) < (pu : Int) := by omega
                            go_wp2
                            go_roundg (m - (mm + 1))
                            case measure => omega
                            case rel => exact ⟨mm + 1, pu, by omega, by go_num, rfl, hide (RT.out pu p2b)⟩
                          · have hgt' : ¬ ((ps : Int) < (pu : Int)) := by omega
                            go_wp2
                            go_roundg (m - (mm + 1))
                            case measure => omega
                            case rel => exact ⟨mm + 1, ps, by omega, by go_num, rfl, hide (RT.out ps hps)⟩
                        · have RN := hide HQ.out.next
                          cases hus : a.us mm with
                          | true =>
                            have h0 : cnt = 0 := by
                              rcases Nat.eq_zero_or_pos cnt with h | h
                              · exact h
                              · exact absurd ⟨hus, h⟩ huse
                            subst h0
                            rw [hus] at ru
                            clear hbs b1 b2 b3 b4 b5 b6 b7 b8 b9 b10 b11 rf hcnt hfR hfR2 HQ huse hus
                            go_wp2
                            go_roundg (m - (mm + 1))
                            case measure => omega
                            case rel => exact ⟨mm + 1, ps, by omega, by go_num, rfl, RN⟩
                          | false =>
                            rw [hus] at ru
                            clear hbs b1 b2 b3 b4 b5 b6 b7 b8 b9 b10 b11 rf hcnt hfR hfR2 HQ huse hus
                            go_wp2
                            go_roundg (m - (mm + 1))
                            case measure => omega
                            case rel => exact ⟨mm + 1, ps, by omega, by go_num, rfl, RN⟩
                      · have hnlm : ¬ ((mm : Int) < (m : Int)) := by omega
                        obtain rfl : m = mm := by omega
                        obtain ⟨x6, l, hbs, b1, b2, b3, b4, b5, b6, b7, b8, b9, b10, b11⟩ := HQ.out
                        obtain ⟨nV, hnV⟩ : ∃ nV, pd.nV = nV := ⟨_, rfl⟩
                        have hnV19 : nV ≤ 19 := by have := HB.out.2.1; omega
                        have o0 := hbs.bp.sl.own 0
                        rw [hbs.bl.c0, hnV] at o0
                        obtain ⟨ao0, c0, hf0, _⟩ := owns_form o0
                        rw [hf0] at o0
                        have o2 := hbs.bp.sl.own 2
                        obtain ⟨aoI, cI, hf2, _⟩ := owns_form o2
                        obtain ⟨n2, hn2⟩ : ∃ n2, x6.ct 2 = n2 := ⟨_, rfl⟩
                        rw [hn2] at hf2
                        obtain rfl : u26 = .slice aoI n2 cI := b1.symm.trans hf2
                        have o1 := hbs.bp.sl.own 1
                        rw [hbs.bl.c1, hnV, hbs.pv] at o1
                        have lc := hbs.bp.lc
                        rw [hbs.hL] at lc
                        have l3 := lc.2.2.2.1
                        rw [hf0] at l3
                        have z3 := lc.2.2.2.2.2.2 3
                        have ncel : wr.cell? ⟨g, m + ci, none⟩ = some (.string (nmS m (m + ci))) := by
                          have h9 := hbs.bp.sl.own 13
                          rw [hbs.n1, hbs.n2, hbs.n3] at h9
                          exact owns_cell h9 (names_get m (m + ci) hM3 (by omega))
                        have ccel : wr.cell? ⟨cB, ci, none⟩ = some (.int .i64 ((c1 : Int) + 1)) := by
                          have h9 := b9.2.2.2.cell hci2
                          rw [up_same] at h9
                          exact h9
                        have hpn : (m : Int) + (ci : Int) < (m : Int) + 2 := by omega
                        have hfzL : x6.fz L := hbs.hL ▸ hbs.bp.f.1
                        have nfL : ∀ i, ¬ (x6.ow i).ownBlock = some L := fun i e => (hbs.bp.sl.nf i L e).1 hfzL
                        have nL0 := nfL 0
                        rw [hf0] at nL0
                        obtain ⟨wb, hwb⟩ : ∃ wb, ((wr.alloc (.cells #[.string (nmS m (m + ci)), .int .i64 ((c1 : Int) + 1), .map none, .string sv, .int .i64 0, .int .u64 0, .int .i64 0, .pointer none, .int .u64 0, .int .i64 0, .pointer none] 107)).alloc (.cells #[.int .i32 ((m : Int) + (ci : Int)), .string ⟨#[99]⟩, .int .i64 0, .pointer (some ⟨wr.heap.size, 0, none⟩), .slice aoI n2 cI] 99)).drew = wb := ⟨_, rfl⟩
                        have kb1 : Kp (fun _ => False) wr (wr.alloc (.cells #[.string (nmS m (m + ci)), .int .i64 ((c1 : Int) + 1), .map none, .string sv, .int .i64 0, .int .u64 0, .int .i64 0, .pointer none, .int .u64 0, .int .i64 0, .pointer none] 107)) := (Kp.refl _ _).alloc _
                        have kb : Kp (fun _ => False) wr wb := hwb ▸ (((Kp.refl _ _).alloc _).alloc _).drew
                        have hbb : wb.heap[wr.heap.size]? = some (.cells #[.string (nmS m (m + ci)), .int .i64 ((c1 : Int) + 1), .map none, .string sv, .int .i64 0, .int .u64 0, .int .i64 0, .pointer none, .int .u64 0, .int .i64 0, .pointer none] 107 (0, 0)) := by
                          rw [← hwb]
                          exact (Below.heap_alloc _ _ _ (by simp)).trans (heap_alloc_new wr _)
                        have hus : wb.heap[wr.heap.size + 1]? = some (.cells #[.int .i32 ((m : Int) + (ci : Int)), .string ⟨#[99]⟩, .int .i64 0, .pointer (some ⟨wr.heap.size, 0, none⟩), .slice aoI n2 cI] 99 (0, 0)) := by
                          rw [← hwb]
                          exact heap_new_at _ _ _ (by simp)
                        have l3a := kb1.cell l3 id
                        have l3b := kb.cell l3 id
                        have z3b := kb.frozen l3 z3 id
                        obtain ⟨g0, c0', w9, hrun0, hown0, hkp0, hat0, hlt0⟩ := run_app wb 39 39 99 Yba.underlying39 (.agg #[.int .i32 0, .string ⟨#[]⟩, .int .i64 0, .pointer none, .slice none 0 0]) 5 64 info99 rfl (by omega) (by omega) (.slice ao0 nV c0) nV (x6.vs 0) (kb.owns o0 (fun _ _ => id)) (wr.heap.size + 1) [.int .i32 ((m : Int) + (ci : Int)), .string ⟨#[99]⟩, .int .i64 0, .pointer (some ⟨wr.heap.size, 0, none⟩), .slice aoI n2 cI] hus rfl (by simp [Value.oneCell']) (by omega)
                        have l3c := hkp0.cell l3b nL0
                        have z3c := hkp0.frozen l3b z3b nL0
                        have HT := hide (And.intro hbs (And.intro b1 (And.intro b2 (And.intro b3 (And.intro b4 (And.intro b5 (And.intro b6 (And.intro b7 (And.intro b8 (And.intro b9 (And.intro hnV (And.intro hf0 (And.intro hf2 (And.intro hfzL nfL))))))))))))))
                        have HU := hide (And.intro kb (And.intro hbb (And.intro hown0 (And.intro hkp0 (And.intro hat0 o1)))))
                        rw [← hwb] at hrun0 l3b
                        have HWB := hide hwb
                        clear hbs b1 b2 b3 b4 b5 b6 b7 b8 b9 b10 b11 hnV hf0 hf2 hfzL nfL o0 o1 o2 lc kb kb1 hbb hus hown0 hkp0 hat0 hlt0 z3 z3b nL0 HQ hwb hn2
                        go_wp2_with fail
                        go_region
                        have O1 : (w9.setCell ⟨L, 3, none⟩ (.slice (some ⟨g0, 0, none⟩) (nV + 1) c0')).ownsRow 0 3 1 u15 nV (x6.vs 1) := by
                          obtain ⟨hbs, b1, b2, b3, b4, b5, b6, b7, b8, b9, hnV, hf0, hf2, hfzL, nfL⟩ := HT.out
                          obtain ⟨kb, hbb, hown0, hkp0, hat0, o1⟩ := HU.out
                          refine (Kp.set1 w9 L 3 _).owns (hkp0.owns (kb.owns o1 (fun _ _ => id)) ?_) ?_
                          · intro j e e2
                            rw [← hbs.pv] at e
                            rw [← hf0] at e2
                            exact hbs.bp.sl.ne 1 0 j (by omega) e e2
                          · intro j e e2
                            rw [← hbs.pv, e2] at e
                            exact nfL 1 e
                        have HO1 := hide O1
                        clear O1 l3 l3a l3b l3c z3c hrun0 ncel ccel
                        go_wp2_with (at_builtin; (refine wpList_app _ rfl (.tmp 276) (.tmp 278) 28 3 rfl Yba.underlying28 (.int .i64 0) 1 8 info3 rfl (by omega) (by omega) u15 nV (x6.vs 1) rfl (World.ownsRow.alloc HO1.out _) w9.heap.size [.int .i64 (ps : Int)] (heap_new_at _ _ _ (by simp)) rfl rfl (by simp [Value.oneCell']) (by omega) ?_))
                        intro g1 c1' w11 hown1 hkp1 hat1 hlt1
                        obtain ⟨hbs, b1, b2, b3, b4, b5, b6, b7, b8, b9, hnV, hf0, hf2, hfzL, nfL⟩ := HT.out
                        obtain ⟨kb, hbb, hown0, hkp0, hat0, o1⟩ := HU.out
                        have kw0 : Kp (fun k => (x6.ow 0).ownBlock = some k) wb w9 := by rw [hf0]; exact hkp0
                        have hat0' : (x6.ow 0).ownBlock = some g0 ∨ wb.heap.size ≤ g0 := by rw [hf0]; exact hat0
                        have kw1 : Kp (fun k => (x6.ow 1).ownBlock = some k) (w9.setCell ⟨L, 3, none⟩ (.slice (some ⟨g0, 0, none⟩) (nV + 1) c0')) w11 := by rw [hbs.pv]; exact ((Kp.refl _ _).alloc _).trans hkp1
                        have hat1' : (x6.ow 1).ownBlock = some g1 ∨ (w9.setCell ⟨L, 3, none⟩ (.slice (some ⟨g0, 0, none⟩) (nV + 1) c0')).heap.size ≤ g1 := by
                          rw [hbs.pv]
                          rcases hat1 with h | h
                          · exact .inl h
                          · have e' : (w9.setCell ⟨L, 3, none⟩ (.slice (some ⟨g0, 0, none⟩) (nV + 1) c0')).heap.size = w9.heap.size := Deep.nblk_setCell _ _ _
                            have e : ((w9.setCell ⟨L, 3, none⟩ (.slice (some ⟨g0, 0, none⟩) (nV + 1) c0')).alloc (.cells #[.int .i64 (ps : Int)] 3)).heap.size = (w9.setCell ⟨L, 3, none⟩ (.slice (some ⟨g0, 0, none⟩) (nV + 1) c0')).heap.size + 1 := by simp
                            exact .inr (by omega)
                        have q1 : wb.cell? ⟨wr.heap.size, 1, none⟩ = some (.int .i64 ((c1 + 1 : Nat) : Int)) := by rw [cell_of_row wb _ 1 _ _ _ hbb]; rfl
                        have q3 : wb.cell? ⟨wr.heap.size, 3, none⟩ = some (.string (if a.pa then strPassed else strFailed)) := by rw [cell_of_row wb _ 3 _ _ _ hbb, HSV.out]; rfl
                        have hBlt : wr.heap.size < wb.heap.size := World.block_lt_of_cell? _ _ q1
                        have bx := hbs.bp.box kb nV wr.heap.size (c1 + 1) a.pa (Nat.le_refl _) hBlt q1 q3
                        have by1 := bx.app0 hown0 kw0 hat0'
                        dsimp only at by1
                        rw [hbs.hL] at by1
                        have by2 := by1.app 1 (by omega) (by omega) (fun n _ => by omega) (fun n _ => by omega) (g := g1) (cap := c1') (n' := nV + 1) (xs' := x6.vs 1 ++ [.int .i64 (ps : Int)]) hown1 (by dsimp only; rw [up_ne _ _ (by omega)]; exact kw1) (by dsimp only; rw [up_ne _ _ (by omega)]; exact hat1')
                        have eq8 : ∀ {α : Type} (f : Nat → α) (a b : α), up (up f 0 a) 1 b (8 + (m + ci)) = f (8 + (m + ci)) := fun f a b => by rw [up_ne _ _ (by omega), up_ne _ _ (by omega)]
                        have l5 := by2.lc.2.2.2.2.2.1
                        have uc := by2.uv.cell (i := m + ci) (by omega)
                        have uz := by2.uv.frozen (m + ci)
                        dsimp only at l5 uc uz
                        rw [b8] at l5 uz
                        rw [b8, eq8] at uc
                        obtain ⟨rlen, hrl⟩ : ∃ rlen, (pd.runs (m + ci)).length = rlen := ⟨_, rfl⟩
                        have hrl10 : rlen ≤ 10 := by have := HB.out.2.2.2.1 (m + ci); omega
                        have O2 : w11.ownsRow 0 48 1 (x6.ow (8 + (m + ci))) rlen (x6.vs (8 + (m + ci))) := by
                          have := by2.sl.own (8 + (m + ci))
                          dsimp only at this
                          rw [eq8, eq8, eq8, tyS_else (by omega) (by omega) (by omega), szS_else (by omega)] at this
                          have hl := this.1
                          rw [hbs.bl.u (m + ci) (by omega), i32s_length, hrl] at hl
                          rw [show x6.ct (8 + (m + ci)) = rlen by omega] at this
                          exact this
                        have nuB : ¬ (x6.ow (8 + (m + ci))).ownBlock = some uB := fun e => (hbs.bp.sl.nf _ _ e).1 (b8 ▸ hbs.bp.f.2.2.2.1)
                        have nL : ¬ (x6.ow (8 + (m + ci))).ownBlock = some L := nfL _
                        obtain ⟨vu, hvu⟩ : ∃ vu, x6.ow (8 + (m + ci)) = vu := ⟨_, rfl⟩
                        rw [hvu] at uc O2 nuB nL
                        have ka6 : Kp (fun _ => False) w11 (w11.alloc (.cells #[.int .i32 (nV : Int)] 48)).drew := ((Kp.refl _ _).alloc _).drew
                        have l5a : (w11.alloc (.cells #[.int .i32 (nV : Int)] 48)).cell? ⟨L, 5, none⟩ = _ := ka6.cell l5 id
                        have uca : (w11.alloc (.cells #[.int .i32 (nV : Int)] 48)).cell? ⟨uB, m + ci, none⟩ = _ := ka6.cell uc id
                        have uza : (w11.alloc (.cells #[.int .i32 (nV : Int)] 48)).frozen? ⟨uB, m + ci, none⟩ = false := ka6.frozen uc uz id
                        obtain ⟨g2, c2, w12, hrun, hown2, hkp2, hat2, hlt2⟩ := run_app (w11.alloc (.cells #[.int .i32 (nV : Int)] 48)).drew 33 33 48 Yba.underlying33 (.int .i32 0) 1 4 info48 rfl (by omega) (by omega) vu rlen (x6.vs (8 + (m + ci))) (ka6.owns O2 (fun _ _ => id)) w11.heap.size [.int .i32 (nV : Int)] (heap_new w11 _ 48) rfl (by simp [Value.oneCell']) (by omega)
                        have l5' := hkp2.cell (show _ = some _ from l5a) nL
                        have uc' := hkp2.cell (show _ = some _ from uca) nuB
                        have uz' := hkp2.frozen (show _ = some _ from uca) uza nuB
                        have HV := hide (And.intro kw0 (And.intro hat0' (And.intro kw1 (And.intro hat1' (And.intro hown1 (And.intro hown2 (And.intro hkp2 (And.intro hat2 (And.intro hvu (And.intro hrl (And.intro q1 (And.intro q3 hBlt))))))))))))
                        clear hbs b1 b2 b3 b4 b5 b6 b7 b8 b9 hnV hf0 hf2 hfzL nfL kb hbb hown0 hkp0 hat0 o1 kw0 hat0' kw1 hat1' q1 q3 hBlt bx by1 by2 eq8 hrl O2 hvu ka6 uza hown1 hkp1 hat1 hlt1 hown2 hkp2 hat2 hlt2
                        go_wp2_with fail
                        go_region
                        all_goals (go_wp2; go_roundg (rn - (p + 1)))
                        all_goals first
                          | omega
                          | (refine ⟨p + 1, by omega, by go_num, ?_⟩
                             obtain ⟨hbs, b1, b2, b3, b4, b5, b6, b7, b8, b9, hnV, hf0, hf2, hfzL, nfL⟩ := HT.out
                             obtain ⟨kb, hbb, hown0, hkp0, hat0, o1⟩ := HU.out
                             obtain ⟨kw0, hat0', kw1, hat1', hown1, hown2, hkp2, hat2, hvu, hrl, q1, q3, hBlt⟩ := HV.out
                             subst hnV
                             subst hrl
                             have kw2 : Kp (fun k => (x6.ow (8 + (m + ci))).ownBlock = some k) w11 w12 := by rw [hvu]; exact (((Kp.refl _ _).alloc _).drew).trans hkp2
                             have hat2' : (x6.ow (8 + (m + ci))).ownBlock = some g2 ∨ w11.heap.size ≤ g2 := by
                               rw [hvu]
                               rcases hat2 with h | h
                               · exact .inl h
                               · have e : ((w11.alloc (.cells #[.int .i32 (pd.nV : Int)] 48)).drew).heap.size = w11.heap.size + 1 := by simp [World.drew]
                                 exact .inr (by omega)
                             obtain ⟨_, a1, a2, a3, _, _, _, _, _, a9, _⟩ := HB.out
                             have hc1 := HA.out.2.2.2.2
                             obtain ⟨x', vc', hbs', f1, f2, f3, f4, f5⟩ := hbs.run hM3 (n := m + ci) (by omega) (by omega) (pas := a.pa) (l := l) (ps := ps) (cn := c1 + 1) rfl b6 (by omega) b3 b4 (by omega) b2 kb (Nat.le_refl _) hBlt q1 q3 (by rw [hf2]; exact hown0) kw0 hat0' hown1 kw1 hat1' hown2 kw2 hat2'
                             rw [b8] at hbs'
                             have nf : ∀ i, ¬ (x6.ow i).ownBlock = some cB := fun i e => (hbs.bp.sl.nf i cB e).1 b9.1
                             have ncL : cB ≠ L := by have := b9.2.1.1; rw [hbs.hL] at this; exact this
                             have ncu : cB ≠ uB := by have := b9.2.1.2.2.2.1; rw [b8] at this; exact this
                             refine hide (R5.of hbs' hbs.hL a1 a2 a3 b7 b8 b9 (fun j => ?_) (Nat.le_refl _) f1 f2 f3 f4 f5 ((Kp.set1 w12 uB (m + ci) _).rowIs (kw2.rowIs (kw1.rowIs ((Kp.set1 w9 L 3 _).rowIs (kw0.rowIs (kb.rowIs b9.2.2.2 id) (nf 0)) ncL) (nf 1)) (nf _)) ncu))
                             have h9 := a9 j
                             unfold up
                             split
                             · have := a9 ci; omega
                             · omega)
                · have hnlp : ¬ ((p : Int) < (rn : Int)) := by omega
                  obtain ⟨x, pd, vc, cf, hbs, a1, a2, a3, a4, a5, a6, a7, a8, a9⟩ := HQ.out
                  obtain ⟨nV, hnV⟩ : ∃ nV, pd.nV = nV := ⟨_, rfl⟩
                  have hnV19 : nV ≤ 19 := by omega
                  have o0 := hbs.bp.sl.own 0
                  rw [hbs.bl.c0, hnV] at o0
                  obtain ⟨ao0, c0, hf0, _⟩ := owns_form o0
                  have l3 := hbs.bp.lc.2.2.2.1
                  rw [hbs.hL, hf0] at l3
                  obtain ⟨pb, pc, n1, hpv⟩ := hbs.sm
                  have o1 := hbs.bp.sl.own 1
                  obtain ⟨ao1, c1, hf1, _⟩ := owns_form o1
                  have hn1 : n1 = nV := by
                    rw [hpv] at hf1
                    injection hf1 with _ h1 _
                    rw [h1, hbs.bl.c1, hnV]
                  subst hn1
                  obtain rfl : u15 = .slice (some ⟨pb, 0, none⟩) n1 pc := hbs.pv.symm.trans hpv
                  have HE := hide (And.intro hbs (And.intro hnV (And.intro a2 a3)))
                  clear hbs a1 a2 a3 a4 a5 a6 a7 a8 a9 HQ hnV o0 hf0 hpv o1 hf1
                  go_wp2_with fail
                  refine wp_region_any (by rfl) ?_
                  refine region59 L pb pc n1 (m + 2) (by simp) (by rfl) (by rfl) (by kernel_rfl) (by kernel_rfl) (by omega) (by omega) rfl rfl rfl rfl ?_
                  intro bl wz hj
                  have hch : ∀ a0 : Act, chain L pb pc n1 (m + 2) bl a0 = ((((((((((((((((a0.put (some 302) (.pointer (some ⟨L, 0, none⟩))).put (some 303) (.slice (some ⟨pb, 0, none⟩) n1 pc)).put (some 304) (.int .i64 (n1 : Int))).put (some 305) (.slice (some ⟨bl 3, 0, none⟩) n1 n1)).put (some 306) (.int .i64 ((m : Int) + 2))).put (some 307) (.slice (some ⟨bl 5, 0, none⟩) (m + 2) (m + 2))).put (some 308) (.int .i64 ((m : Int) + 2))).put (some 309) (.slice (some ⟨bl 7, 0, none⟩) (m + 2) (m + 2))).put (some 310) (.int .i64 (n1 : Int))).put (some 311) (.slice (some ⟨bl 9, 0, none⟩) n1 n1)).put (some 312) (.int .i64 ((m : Int) + 2))).put (some 313) (.slice (some ⟨bl 11, 0, none⟩) (m + 2) (m + 2))).put (some 314) (.int .i64 ((m : Int) + 2))).put (some 315) (.slice (some ⟨bl 13, 0, none⟩) (m + 2) (m + 2))).put (some 316) (.agg (g59 L pb pc n1 (m + 2) bl))).put (some 317) (.pointer (some ⟨bl 15, 0, none⟩))).put (some 33) (.pointer (some ⟨bl 15, 0, none⟩)) := fun a0 => rfl
                  rw [hch] at hj ⊢
                  have HJ := hide hj
                  have hne : ∀ i j, i ≠ j → isB i = true → isB j = true → bl i ≠ bl j := fun i j h1 h2 h3 => hj.ne i j h1 h2 h3 rfl rfl
                  have HNE2 := hide hne
                  clear hj hch l3 hne
                  go_wp2_with fail
                  go_loopg [34] (m + 2) (fun kk iv wr => ∃ i : Nat, i + kk = m + 2 ∧ iv = .int .i64 i ∧ Hid (Kp (fun k => k = bl 7 ∨ k = bl 11) wz wr ∧ wr.rowIs (bl 7) 48 (m + 2) (fun n => .int .i32 (if n < i then -1 else 0)) ∧ wr.rowIs (bl 11) 48 (m + 2) (fun n => .int .i32 (if n < i then -1 else 0))))
                  case atStart =>
                    refine ⟨0, by omega, rfl, hide ⟨Kp.refl _ _, (HJ.out.rw 7 rfl rfl).1.congr ?_, (HJ.out.rw 11 rfl rfl).1.congr ?_⟩⟩
                    · intro n hn
                      rw [if_neg (Nat.not_lt_zero _)]; rfl
                    · intro n hn
                      rw [if_neg (Nat.not_lt_zero _)]; rfl
                  case round =>
                    obtain ⟨i, hi, rfl, HQ⟩ := hrel
                    obtain ⟨kp, r7, r11⟩ := HQ.out
                    by_cases hli : i < m + 2
                    · have hli' : (i : Int) < (m : Int) + 2 := by omega
                      have hG := HJ.out.bx rfl
                      have n7 : bl 15 ≠ bl 7 := HNE2.out 15 7 (by omega) rfl rfl
                      have n11 : bl 15 ≠ bl 11 := HNE2.out 15 11 (by omega) rfl rfl
                      have n711 : bl 7 ≠ bl 11 := HNE2.out 7 11 (by omega) rfl rfl
                      have nG : ¬ (bl 15 = bl 7 ∨ bl 15 = bl 11) := by
                        rintro (e | e)
                        · exact n7 e
                        · exact n11 e
                      have hGr := (kp.block (bl 15) (Array.getElem?_eq_some_iff.1 hG.1).1 nG).trans hG.1
                      have g4 : wr.cell? ⟨bl 15, 4, none⟩ = some (.slice (some ⟨bl 7, 0, none⟩) (m + 2) (m + 2)) := by rw [cell_of_row wr (bl 15) 4 _ _ _ hGr]; rfl
                      have g9 : wr.cell? ⟨bl 15, 9, none⟩ = some (.slice (some ⟨bl 11, 0, none⟩) (m + 2) (m + 2)) := by rw [cell_of_row wr (bl 15) 9 _ _ _ hGr]; rfl
                      have c7 := r7.cell hli
                      have z7 := r7.frozen i
                      have ks := Kp.set1 wr (bl 7) i (.int .i32 (-1))
                      have g9' := ks.cell g9 n7
                      have r11' := ks.rowIs r11 (Ne.symm n711)
                      have c11 := r11'.cell hli
                      have z11 := r11'.frozen i
                      have HX := hide (And.intro kp (And.intro r7 (And.intro r11' n711)))
                      clear kp r7 r11 hG n7 n11 n711 nG hGr g9 ks r11' HQ
                      go_wp2
                      go_roundg (m + 2 - (i + 1))
                      case measure => omega
                      case rel =>
                        obtain ⟨kp, r7, r11', n711⟩ := HX.out
                        refine ⟨i + 1, by omega, by go_num, hide ⟨(kp.setCell (fun _ => .inl rfl) _).setCell (fun _ => .inr rfl) _, ((Kp.set1 _ (bl 11) i _).rowIs (r7.set i _) n711).congr ?_, (r11'.set i _).congr ?_⟩⟩
                        · intro n hn
                          by_cases e : n = i
                          · rw [if_pos e, e, if_pos (by omega)]
                          · rw [if_neg e]
                            by_cases e2 : n < i
                            · rw [if_pos e2, if_pos (by omega)]
                            · rw [if_neg e2, if_neg (by omega)]
                        · intro n hn
                          by_cases e : n = i
                          · rw [if_pos e, e, if_pos (by omega)]
                          · rw [if_neg e]
                            by_cases e2 : n < i
                            · rw [if_pos e2, if_pos (by omega)]
                            · rw [if_neg e2, if_neg (by omega)]
                    · have hnli2 : ¬ ((i : Int) < (m : Int) + 2) := by omega
                      go_wp2
                      go_ret2
                      obtain ⟨kp, r7, r11⟩ := HQ.out
                      obtain ⟨hbs, hnV, a2, a3⟩ := HE.out
                      subst hnV
                      refine build_done (hbs.kp0 ((Kp.refl _ _).drew)) hM1 hM3 (by omega) a2 (fun n => Nat.le_trans (a3 n) (by omega)) HH.out.1 rfl HJ.out kp (r7.congr ?_) (r11.congr ?_)
                      · intro n hn
                        rw [if_pos (by omega)]
                      · intro n hn
                        rw [if_pos (by omega)]
end Go.Proofs.Ybulkctjg
