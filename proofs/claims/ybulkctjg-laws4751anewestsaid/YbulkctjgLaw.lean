import Derived.Test.YbulkctjgBuild
import Derived.Test.YbulkctjgModel
namespace Go.Proofs.Ybulkctjg
open Go.RowKit
set_option linter.unusedVariables false

def EntAt (w : World) (ea : Option Addr) (en : Nat) (es : Nat → Nat) : Prop :=
  ∀ j, j < en → ∃ eb eo, ea = some ⟨eb, eo, none⟩ ∧ eb < w.heap.size ∧ w.cell? ⟨eb, eo + j, none⟩ = some (.int .u8 (es j : Int)) ∧ es j < 256

def LPost (w : World) (e : Ending) (w' : World) : Prop := e = .returned (.bool true) ∧ Below w.heap.size w w'

set_option maxRecDepth 100000 in
set_option maxHeartbeats 4000000 in
theorem law_walk (a0 r0 r1 r2 : Nat) (ra : Option Addr) (rn rc : Nat) (ea : Option Addr) (en ec : Nat) (es : Nat → Nat) (w : World) (h0 : a0 < 256) (h1 : r0 < 256) (h2 : r1 < 256) (h3 : r2 < 256) (hruns : rn ≤ 10 → RunsAt w ra rn) (hes : EntAt w ea en es) :
    Calls Yba.prog 3 #[.int .u8 a0, .agg #[.int .u8 r0, .int .u8 r1, .int .u8 r2], .slice ra rn rc, .slice ea en ec] w fun e w' => LPost w e w' := by
  by_cases hrn : rn ≤ 10
  case neg =>
    have hrn' : (10 : Int) < (rn : Int) := by omega
    go_enter Yba.func3, Yba.ntmps3
    go_wp2
    go_ret
    exact ⟨rfl, ((Kp.refl (fun _ => False) w).alloc _).below (Nat.le_refl _) (fun k h => h.elim)⟩
  by_cases hen : en ≤ 5
  case neg =>
    have hrn' : ¬ ((10 : Int) < (rn : Int)) := by omega
    have hen' : (5 : Int) < (en : Int) := by omega
    go_enter Yba.func3, Yba.ntmps3
    go_wp2
    go_ret
    exact ⟨rfl, ((Kp.refl (fun _ => False) w).alloc _).below (Nat.le_refl _) (fun k h => h.elim)⟩
  have hrn' : ¬ ((10 : Int) < (rn : Int)) := by omega
  have hen' : ¬ ((5 : Int) < (en : Int)) := by omega
  have ka : Kp (fun _ => False) w (w.alloc (.cells #[.int .u8 (r0 : Int), .int .u8 (r1 : Int), .int .u8 (r2 : Int)] 22)) := (Kp.refl _ _).alloc _
  have hra : RunsAt (w.alloc (.cells #[.int .u8 (r0 : Int), .int .u8 (r1 : Int), .int .u8 (r2 : Int)] 22)) ra rn := by
    intro j hj
    obtain ⟨rb, ro, a, e1, e2, e3, e4, e5, e6, e7, e8, e9, e10, e11, e12⟩ := hruns hrn j hj
    exact ⟨rb, ro, a, e1, Nat.lt_of_lt_of_le e2 ka.size, e3, e4, ka.cell e5 id, ka.cell e6 id, ka.cell e7 id, ka.cell e8 id, ka.cell e9 id, ka.cell e10 id, ka.cell e11 id, ka.cell e12 id⟩
  have BW := hide (build_walk a0 r0 r1 r2 ra rn rc (w.alloc (.cells #[.int .u8 (r0 : Int), .int .u8 (r1 : Int), .int .u8 (r2 : Int)] 22)) h0 h1 h2 h3 hrn hra)
  have HES := hide hes
  have KA := hide ka
  clear hruns hes ka hra
  go_enter Yba.func3, Yba.ntmps3
  go_wp2_with fail
  refine BW.out.mono ?_
  rintro e w1 ⟨d, b, y, S, mb, nB, cap, hdM, hok, hy, rfl, kw, hS, gi, rk, rt, ry, l0, hnm, l2, mi, hmS⟩
  have kw1 := KA.out.trans kw
  rw [← hdM] at rk rt ry l0 hnm mi ⊢
  have hM1 := hok.m1
  have hM3 := hok.m2
  have hmk1 := run_make_row' (P := Yba.prog) 28 3 (.int .i64 0) 8 Yba.underlying28 info3 rfl .i64 .i64 en (by omega) (by omega)
  have hmk2 := run_make_row' (P := Yba.prog) 29 9 (.string ⟨#[]⟩) 16 Yba.underlying29 info9 rfl .i64 .i64 en (by omega) (by omega)
  have ri := World.rowIs_made w1 (.int .i64 0) en 3
  have rn' := World.rowIs_made (w1.alloc (.cells (madeCells #[.int .i64 0] en) 3)) (.string ⟨#[]⟩) en 9
  rw [show (w1.alloc (.cells (madeCells #[.int .i64 0] en) 3)).heap.size = w1.heap.size + 1 by simp] at rn'
  have ri2 := ri.alloc (.cells (madeCells #[.string ⟨#[]⟩] en) 9)
  have ka2 : Kp (fun _ => False) w1 ((w1.alloc (.cells (madeCells #[.int .i64 0] en) 3)).alloc (.cells (madeCells #[.string ⟨#[]⟩] en) 9)) := ((Kp.refl _ _).alloc _).alloc _
  have hsz2 : ((w1.alloc (.cells (madeCells #[.int .i64 0] en) 3)).alloc (.cells (madeCells #[.string ⟨#[]⟩] en) 9)).heap.size = w1.heap.size + 1 + 1 := by simp
  have HD := hide (And.intro hdM (And.intro kw1 (And.intro hS (And.intro gi (And.intro rk (And.intro rt (And.intro ry (And.intro l0 (And.intro hnm (And.intro l2 (And.intro mi (And.intro hmS (And.intro ri2 (And.intro rn' (And.intro ka2 hsz2)))))))))))))))
  clear hdM kw1 hS gi rk rt ry l0 hnm l2 mi hmS ri ri2 rn' ka2 hsz2 kw BW
  go_wp2_with fail
  clear hmk1 hmk2
  obtain ⟨w2, hw2⟩ : ∃ w2, (w1.alloc (.cells (madeCells #[.int .i64 0] en) 3)).alloc (.cells (madeCells #[.string ⟨#[]⟩] en) 9) = w2 := ⟨_, rfl⟩
  obtain ⟨iB, hiB⟩ : ∃ iB, w1.heap.size = iB := ⟨_, rfl⟩
  rw [hw2, hiB] at HD ⊢
  obtain ⟨tB, htB⟩ : ∃ tB, iB + 1 = tB := ⟨_, rfl⟩
  rw [htB] at HD ⊢
  have HIB := hide (And.intro hiB htB)
  clear hw2 hiB htB
  obtain ⟨ix0, hix0⟩ : ∃ ix0 : Nat → Nat, ∀ j, es j % (d.nM + 2) = ix0 j := ⟨_, fun _ => rfl⟩
  have HIX := hide hix0
  clear hix0
  go_loopg [48] en (fun kk iv wr => ∃ j : Nat, j + kk = en ∧ iv = .int .i64 j ∧ Hid (Kp (fun k => k = iB ∨ k = tB) w2 wr ∧ wr.rowIs iB 3 en (fun i => .int .i64 (if i < j then ((ix0 i : Nat) : Int) else 0)) ∧ wr.rowIs tB 9 en (fun i => .string (if i < j then nmS d.nM (ix0 i) else ⟨#[]⟩))))
  case atStart =>
    obtain ⟨hdM, kw1, hS, gi, rk, rt, ry, l0, hnm, l2, mi, hmS, ri2, rn', ka2, hsz2⟩ := HD.out
    refine ⟨0, by omega, rfl, hide ⟨Kp.refl _ _, ri2.congr ?_, rn'.congr ?_⟩⟩
    · intro i hi
      rw [if_neg (Nat.not_lt_zero _)]
    · intro i hi
      rw [if_neg (Nat.not_lt_zero _)]
  case round =>
    obtain ⟨j, hj, rfl, HQ⟩ := hrel
    obtain ⟨kp, rI, rT⟩ := HQ.out
    obtain ⟨hdM, kw1, hS, gi, rk, rt, ry, l0, hnm, l2, mi, hmS, ri2, rn', ka2, hsz2⟩ := HD.out
    obtain ⟨hiB, htB⟩ := HIB.out
    have kk1 : Kp (fun k => k = iB ∨ k = tB) w1 wr := (ka2.mono (fun _ _ h => h.elim)).trans kp
    have kz : Kp (fun _ => False) w1 wr := kk1.mono (by
      rintro i hi (e | e) <;> omega)
    by_cases hlj : j < en
    · have hlj' : (j : Int) < (en : Int) := by omega
      obtain ⟨eb, eo, hea, heb, hec, he256⟩ := HES.out j hlj
      subst hea
      have ecell := (kw1.trans kz).cell hec id
      obtain ⟨ev, hev⟩ : ∃ ev, es j = ev := ⟨_, rfl⟩
      have hix := HIX.out j
      rw [hev] at ecell he256 hix
      obtain ⟨ix, hixe⟩ : ∃ ix, ix0 j = ix := ⟨_, rfl⟩
      rw [hixe] at hix
      have hixn : ix < d.nM + 2 := by rw [← hix]; exact Nat.mod_lt _ (by omega)
      have hixn' : (ix : Int) < (d.nM : Int) + 2 := by omega
      have hnz : ¬ ((d.nM : Int) + 2 = 0) := by omega
      have eix : (ev : Int) % ((d.nM : Int) + 2) = (ix : Int) := by
        rw [← hix]
        have := Int.natCast_emod ev (d.nM + 2)
        rw [this]; rfl
      have etm : Int.tmod (ev : Int) ((d.nM : Int) + 2) = (ix : Int) := by rw [Int.tmod_eq_emod_of_nonneg (by omega)]; exact eix
      have g0 := (kz.gis gi.g id).c0
      have nn := kz.cell (view_cell (hnm ix hixn)) id
      have ll := kz.cell (view_cell l0) id
      have cI := rI.cell hlj
      have zI := rI.frozen j
      have rI2 := rI.set j (.int .i64 (ix : Int))
      have ks := Kp.set1 wr iB j (.int .i64 (ix : Int))
      have hGl := gi.fx _ (mem_fix y).1
      have g0' := ks.cell g0 (by show ¬ (y.G = iB); omega)
      have hnBl := view_lt (hnm ix hixn)
      have hLl := view_lt l0
      have hSw := gi.hS
      dsimp only at hnBl hLl
      have nn' := ks.cell nn (by show ¬ (nB = iB); omega)
      have ll' := ks.cell ll (by show ¬ (b.L = iB); omega)
      have cI' := rI2.cell hlj
      rw [if_pos rfl] at cI'
      have rT2 := ks.rowIs rT (by omega)
      have cT := rT2.cell hlj
      have zT := rT2.frozen j
      have HX := hide (And.intro kp (And.intro rI2 (And.intro rT2 hixe)))
      have hiT : tB ≠ iB := by omega
      clear kp rI rT rI2 rT2 HQ kk1 kz hdM kw1 hS gi rk rt ry l0 hnm l2 mi hmS ri2 rn' ka2 hsz2 hiB htB hec heb hev hix hixe ks g0 ll nn hGl hnBl hLl hSw
      go_wp2_with fail
      go_region
      all_goals (go_wp2; go_roundg (en - (j + 1)))
      all_goals first
        | omega
        | (obtain ⟨kp, rI2, rT2, hixe⟩ := HX.out
           refine ⟨j + 1, by omega, by go_num, hide ⟨((kp.setCell (fun _ => .inl rfl) _).drew).setCell (fun _ => .inr rfl) _, ?_, ?_⟩⟩
           · refine ((Kp.set1 _ tB j _).rowIs rI2.drew (Ne.symm hiT)).congr ?_
             intro i hi
             by_cases e : i = j
             · rw [if_pos e, e, if_pos (by omega), hixe]
             · rw [if_neg e]
               by_cases e2 : i < j
               · rw [if_pos e2, if_pos (by omega)]
               · rw [if_neg e2, if_neg (by omega)]
           · refine (rT2.drew.set j _).congr ?_
             intro i hi
             by_cases e : i = j
             · rw [if_pos e, e, if_pos (by omega), hixe]
             · rw [if_neg e]
               by_cases e2 : i < j
               · rw [if_pos e2, if_pos (by omega)]
               · rw [if_neg e2, if_neg (by omega)])
    · have hnlj : ¬ ((j : Int) < (en : Int)) := by omega
      have hje : j = en := by omega
      have hix : ∀ i, i < en → ix0 i < d.nM + 2 := by
        intro i hi
        rw [← HIX.out i]; exact Nat.mod_lt _ (by omega)
      have kal : Kp (fun _ => False) wr (wr.alloc (.cells #[.string ⟨#[113]⟩, .slice (some ⟨tB, 0, none⟩) en en, .string ⟨#[]⟩] 45)) := (Kp.refl _ _).alloc _
      have k4 := kz.trans kal
      have hw1s := kz.size
      have hw2s := kp.size
      have hIl := rI.lt
      have hTl := rT.lt
      have hals := kal.size
      have gi4 := (gi.kpr hy (M := fun _ => False) (fun _ h => h.elim) (fun _ h => h.elim) k4).weaken (pr' := fun k => (k < S ∨ k = iB ∨ k = tB) ∨ k = y.tB ∨ k = y.yB) (by
        rintro k ((e | e | e) | e | e)
        · exact .inl (.inl e)
        · exact .inr (by omega)
        · exact .inr (by omega)
        · exact .inl (.inr (.inl e))
        · exact .inl (.inr (.inr e)))
      have hnames : ∀ i, i < en → (wr.alloc (.cells #[.string ⟨#[113]⟩, .slice (some ⟨tB, 0, none⟩) en en, .string ⟨#[]⟩] 45)).cell? ⟨tB, i, none⟩ = some (.string (nmS d.nM (ix0 i))) := by
        intro i hi
        have := kal.cell (rT.cell hi) id
        rw [if_pos (by omega)] at this
        exact this
      have hv : view S (wr.alloc (.cells #[.string ⟨#[113]⟩, .slice (some ⟨tB, 0, none⟩) en en, .string ⟨#[]⟩] 45)) = view S w1 := k4.view gi.hS (fun _ h => h.elim)
      have hp1 : ∀ k, (k < S ∨ k = iB ∨ k = tB) → k ∉ y.fix := by
        rintro k (e | e | e) hm
        · have := hy.ge k hm; omega
        · have := gi.fx k hm; omega
        · have := gi.fx k hm; omega
      have NW := hide (newest_walk d b y S en tB mb (nmS d.nM) ix0 (fun k => k < S ∨ k = iB ∨ k = tB) (.slice none 0 0) 0 (.slice none 0 0) (fun _ => .slice none 0 0) (fun _ => 0) (fun _ => 0) (wr.alloc (.cells #[.string ⟨#[113]⟩, .slice (some ⟨tB, 0, none⟩) en en, .string ⟨#[]⟩] 45)) hok hy hen hix gi4 ⟨fun v _ => Int.le_refl _, by rw [Nat.zero_add]; exact unc_le _ _⟩ (k4.rowIs rk id) (k4.rowIs rt id) (k4.rowIs ry id) hnames (.inr (.inr rfl)) hp1 (fun k h => .inl h) (by rw [hv]; exact l2) (k4.mapIs mi id) hmS)
      have rI4 := kal.rowIs rI id
      have hww := kw1.trans k4
      have HE := hide (And.intro rI4 (And.intro hww (And.intro hS (And.intro hix (And.intro hiB htB)))))
      clear kal k4 hw1s hw2s hIl hTl hals gi4 hnames hv hp1 rI4 hww kp rI rT HQ kk1 kz hdM kw1 hS gi rk rt ry l0 hnm l2 mi hmS ri2 rn' ka2 hsz2 hiB htB hix
      go_wp2_with fail
      refine NW.out.mono ?_
      rintro e w5 ⟨k5, t5, ⟨tv5, c5, sv5, g5⟩, st5, hS5, hres⟩
      have i5 := k5.rowIs HE.out.1 (fun h => h (.inr (.inl rfl)))
      have kw5 : Kp (fun k => w.heap.size ≤ k) w w5 := (HE.out.2.1.mono (fun _ _ h => h.elim)).trans' k5 (by
        intro i hi h
        exact absurd (.inl (by have := HE.out.2.2.1; have := KA.out.size; omega)) h)
      have hI5 := i5.lt
      have MW := hide (model_walk d b y S en iB en ix0 tv5 c5 sv5 w5 hok hen st5 hS5 g5 HE.out.2.2.2.1 (fun i hi => by
        have := i5.cell hi
        rw [if_pos (by omega)] at this
        exact this) hI5)
      have c9 := g5.c9
      have HT := hide t5
      have HK5 := hide kw5
      have hM := HE.out
      clear NW k5 t5 st5 hS5 g5 i5 kw5 hI5 hM
      rcases hres with ⟨ix, pB, hF, rfl, hpr⟩ | ⟨rfl, hno⟩
      · go_wp2_with fail
        go_loopg [19] (d.nM + 2) (fun kk iv wr => ∃ n : Nat, n + kk = d.nM + 2 ∧ iv = .int .i64 n ∧ wr = w5)
        case atStart => exact ⟨0, by omega, rfl, rfl⟩
        case round =>
          obtain ⟨n, hn, rfl, hwr⟩ := hrel
          subst hwr
          by_cases hln : n < d.nM + 2
          · have hln' : (n : Int) < (d.nM : Int) + 2 := by omega
            have ct := HT.out.cell hln
            go_wp2
            go_roundg (d.nM + 2 - (n + 1))
            case measure => omega
            case rel => exact ⟨n + 1, by omega, by go_num, rfl⟩
          · have hnln : ¬ ((n : Int) < (d.nM : Int) + 2) := by omega
            go_wp2_with fail
            refine MW.out.mono ?_
            rintro e w6 ⟨k6, hr⟩
            have kb : Kp (fun k => w.heap.size ≤ k) w w6 := HK5.out.trans' k6 (fun i hi h => by have := HK5.out.size; omega)
            have KB := hide kb
            clear kb
            rcases hr with ⟨ix', ob, hF', rfl, hob⟩ | ⟨rfl, hno⟩
            · have p6 := k6.rowIs hpr (by have := hpr.lt; omega)
              have hval : ∀ i, i < en → Plain.val (fun j => cand d (ix0 j)) ix i = Plain.val (fun j => cand d (ix0 j)) ix' i := by
                intro i hi
                unfold Plain.val
                rw [hF.unique hF' i hi]
              have HV := hide hval
              have HP := hide p6
              have HO := hide hob
              clear hF hF' hpr hob p6 k6 hval
              go_wp2_with fail
              go_loopg [120] en (fun kk iv wr => ∃ (n nq : Nat), n + kk = en ∧ iv = .int .i64 n ∧ wr = w6.drewN nq)
              case atStart => exact ⟨0, 0, by omega, rfl, rfl⟩
              case round =>
                obtain ⟨i, nq0, hi, rfl, hwr⟩ := hrel
                subst hwr
                by_cases hli : i < en
                · have hli' : (i : Int) < (en : Int) := by omega
                  have cp := HP.out.cell hli
                  have co := HO.out.cell hli
                  rw [HV.out i hli] at cp
                  obtain ⟨vi, hvi⟩ : ∃ vi, Plain.val (fun j => cand d (ix0 j)) ix' i = vi := ⟨_, rfl⟩
                  rw [hvi] at cp co
                  clear hvi
                  go_wp2_with fail
                  go_quiet (fail)
                  go_wp2
                  go_roundg (en - (i + 1))
                  case measure => omega
                  case rel => exact ⟨i + 1, nq0 + nq, by omega, by go_num, rfl⟩
                · have hnli : ¬ ((i : Int) < (en : Int)) := by omega
                  go_wp2
                  go_ret
                  exact ⟨rfl, (KB.out.drewN nq0).below (Nat.le_refl _) (fun k h => h)⟩
            · exact absurd hF.2.1 (hno ix hF.1)
      · go_wp2_with fail
        go_loopg [19] (d.nM + 2) (fun kk iv wr => ∃ n : Nat, n + kk = d.nM + 2 ∧ iv = .int .i64 n ∧ wr = w5)
        case atStart => exact ⟨0, by omega, rfl, rfl⟩
        case round =>
          obtain ⟨n, hn, rfl, hwr⟩ := hrel
          subst hwr
          by_cases hln : n < d.nM + 2
          · have hln' : (n : Int) < (d.nM : Int) + 2 := by omega
            have ct := HT.out.cell hln
            go_wp2
            go_roundg (d.nM + 2 - (n + 1))
            case measure => omega
            case rel => exact ⟨n + 1, by omega, by go_num, rfl⟩
          · have hnln : ¬ ((n : Int) < (d.nM : Int) + 2) := by omega
            go_wp2_with fail
            refine MW.out.mono ?_
            rintro e w6 ⟨k6, hr⟩
            have kb : Kp (fun k => w.heap.size ≤ k) w w6 := HK5.out.trans' k6 (fun i hi h => by have := HK5.out.size; omega)
            have KB := hide kb
            clear kb
            rcases hr with ⟨ix', ob, hF', rfl, hob⟩ | ⟨rfl, hno'⟩
            · exact absurd hF'.2.1 (hno ix' hF'.1)
            · clear hno hno'
              have hnil := run_eql_nil_slice (P := Yba.prog) w6 33 48 none 0 0 0 0 Yba.underlying33
              go_wp2
              go_ret
              exact ⟨rfl, KB.out.below (Nat.le_refl _) (fun k h => h)⟩
end Go.Proofs.Ybulkctjg
