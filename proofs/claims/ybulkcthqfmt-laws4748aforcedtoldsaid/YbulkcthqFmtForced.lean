import Derived.Test.YbulkcthqFmtIn
import Derived.Laws.OwnMore
import Derived.Laws.MakeOwn
namespace Go.Proofs.YbulkcthqFmt
open Go.RowKit Go.Extern.Stop Go.Stop Go.Extern
set_option linter.unusedVariables false

theorem make22 (m : Nat) (hm : m ≤ 100) (w : World) : (Instr.makeSlice 22 (.int .i64 (m : Int)) (.int .i64 (m : Int))).run Ybaf.prog w = .ok (.slice (some ⟨w.heap.size, 0, none⟩) m m) (w.alloc (.cells (madeCells #[.int .u32 0, .int .u32 0] (m * 2)) 27)) := by
  obtain ⟨i, hi, hzz⟩ := Option.map_eq_some_iff.1 info27
  simp only [Prod.mk.injEq] at hzz
  obtain ⟨hz, hs, hb⟩ := hzz
  have := run_make w 22 27 i _ Ybaf.underlying22 hi hz .i64 .i64 (m : Int) (m : Int) (by omega) (by omega) (by rw [hb]; omega) (by omega)
  rw [this, hs]
  rfl

theorem own_some {w : World} {base e size g n cap : Nat} {xs : List Value} (h : w.ownsRow base e size (.slice (some ⟨g, 0, none⟩) n cap) n xs) (j : Nat) (hj : j < n * size) : ∃ v, w.cell? ⟨g, j, none⟩ = some v := by
  rw [h.cellAt j hj]
  have := h.1
  exact ⟨xs[j], List.getElem?_eq_getElem (by omega)⟩

/-- the image that the law builds, in the world behind -/
structure ImAt (w : World) (bi m : Nat) (A S he : Int) (w3 : World) : Prop where
  c6 : w3.cell? ⟨bi, 6, none⟩ = some (.slice (some ⟨w.heap.size, 0, none⟩) m m)
  c10 : w3.cell? ⟨bi, 10, none⟩ = some (.int .i64 he)
  cA : w3.cell? ⟨w.heap.size, 0 + 8, none⟩ = some (.int .u32 A)
  cS : w3.cell? ⟨w.heap.size, 0 + 9, none⟩ = some (.int .u32 S)
  bel : Below w.heap.size w w3
theorem ImAt.later {w : World} {bi m : Nat} {A S he : Int} {w3 w4 : World} (h : ImAt w bi m A S he w3) (hb : Below w3.heap.size w3 w4) : ImAt w bi m A S he w4 :=
  ⟨cell_later hb h.c6, cell_later hb h.c10, cell_later hb h.cA, cell_later hb h.cS, h.bel.trans (hb.mono h.bel.size)⟩

theorem im_made (w wr : World) (m : Nat) (A S he : Int) (xs : List Value) (hm : 5 ≤ m) (ho : wr.ownsRow w.heap.size 27 2 (.slice (some ⟨w.heap.size, 0, none⟩) m m) m xs) (hb : Below w.heap.size w wr) :
    ImAt w wr.heap.size m A S he (((wr.setCell ⟨w.heap.size, 8, none⟩ (.int .u32 A)).setCell ⟨w.heap.size, 9, none⟩ (.int .u32 S)).alloc (.cells #[.string ⟨#[]⟩, .int .u16 0, .int .u32 0, .int .u32 0, .int .u64 0, .int .u32 0, .slice (some ⟨w.heap.size, 0, none⟩) m m, .int .i64 0, .int .i64 0, .slice none 0 0, .int .i64 he] 34)) := by
  have h1 := (ho.stored 8 (.int .u32 A)).1
  have h2 := (h1.stored 9 (.int .u32 S)).1
  have hl := ho.1
  have hb2 : Below w.heap.size w ((wr.setCell ⟨w.heap.size, 8, none⟩ (.int .u32 A)).setCell ⟨w.heap.size, 9, none⟩ (.int .u32 S)) := (hb.setCell (by simp) _).setCell (by simp) _
  have hsz : ((wr.setCell ⟨w.heap.size, 8, none⟩ (.int .u32 A)).setCell ⟨w.heap.size, 9, none⟩ (.int .u32 S)).heap.size = wr.heap.size := by simp [World.setCell]
  generalize hw2 : (wr.setCell ⟨w.heap.size, 8, none⟩ (.int .u32 A)).setCell ⟨w.heap.size, 9, none⟩ (.int .u32 S) = w2 at h2 hb2 hsz
  rw [← hsz]
  have hlt : w.heap.size < w2.heap.size := (h2.lt w.heap.size rfl).2
  have hbb : Below w2.heap.size w2 (w2.alloc (.cells #[.string ⟨#[]⟩, .int .u16 0, .int .u32 0, .int .u32 0, .int .u64 0, .int .u32 0, .slice (some ⟨w.heap.size, 0, none⟩) m m, .int .i64 0, .int .i64 0, .slice none 0 0, .int .i64 he] 34)) := (Below.refl _ _).alloc (Nat.le_refl _) _
  refine ⟨by go_simp, by go_simp, cell_later hbb ?_, cell_later hbb ?_, hb2.alloc hb2.size _⟩
  · rw [h2.cellAt (0 + 8) (by omega), List.getElem?_set, List.getElem?_set]
    simp
    omega
  · rw [h2.cellAt (0 + 9) (by omega), List.getElem?_set]
    simp
    omega

set_option maxHeartbeats 1000000 in
theorem forced_walk (F : Interp) (aU aM aT : Addr) (sM sT : ByteArray) (A S he p : Int) (w : World) (hg : Globs F w aU aM sM) (hT : w.cell? ⟨0, 0, none⟩ = some (.iface 102 (.pointer (some aT)))) (hsT : w.cell? aT = some (.string sT))
    (f1 : 0 ≤ A) (f2 : A ≤ 4294967295) (f3 : 0 ≤ S) (f4 : S ≤ 4294967295) (p0 : 0 ≤ p) (p1 : p ≤ 255) :
    Calls Ybaf.prog 4 #[.int .u32 A, .int .u32 S, .int .i64 he, .int .u8 p] w fun e w' => e = .returned (.bool true) ∧ Below w.heap.size w w' := by
  obtain ⟨m, hm⟩ : ∃ m : Nat, 5 + p % 12 = (m : Int) := ⟨(5 + p % 12).toNat, by omega⟩
  have hm1 : 5 ≤ m := by omega
  have hm2 : m ≤ 16 := by omega
  have hmk := make22 m (by omega)
  have HG := hide hg
  have HT := hide hT
  have HS := hide hsT
  clear hg hT hsT
  go_enter Ybaf.func4, Ybaf.ntmps4
  go_wp2
  clear hmk
  go_loopw [11] (fun i wr => ∃ (k : Nat) (xs : List Value), k ≤ m ∧ i = .int .i64 k ∧ wr.ownsRow w.heap.size 27 2 (.slice (some ⟨w.heap.size, 0, none⟩) m m) m xs ∧ Below w.heap.size w wr) (fun i _ => m - (intOf i).toNat)
  case atStart => exact ⟨0, _, Nat.zero_le _, rfl, World.ownsRow_lit w _ m (Nat.le_refl _) (by unfold maxLen; omega) (by rw [size_madeCells]), (Below.refl _ _).alloc (Nat.le_refl _) _⟩
  case round =>
    obtain ⟨k, xs, hk, rfl, ho, hb⟩ := hrel
    have HO := hide ho
    have HB := hide hb
    by_cases hlt : k < m
    · obtain ⟨v0, c0⟩ := own_some ho (k * 2) (by omega)
      obtain ⟨v1, c1⟩ := own_some ho (k * 2 + 1) (by omega)
      have z0 := ho.frozenAt (k * 2)
      have z1 := ho.frozenAt (k * 2 + 1)
      have hlt' : (k : Int) < (m : Int) := by omega
      clear ho hb
      go_wp2
      go_roundw
      case rel => exact ⟨k + 1, _, by omega, by go_num, ((HO.out.stored (k * 2) _).1.stored (k * 2 + 1) _).1, (HB.out.setCell (by simp) _).setCell (by simp) _⟩
      case measure => simp [intOf]; omega
    · obtain ⟨v0, c0⟩ := own_some ho 8 (by omega)
      obtain ⟨v1, c1⟩ := own_some ho 9 (by omega)
      have z0 := ho.frozenAt 8
      have z1 := ho.frozenAt 9
      have hm' : (4 : Int) < (m : Int) := by omega
      have him := im_made w wr m A S he xs hm1 ho hb
      have HI := hide him
      have hnk : ¬ (k : Int) < (m : Int) := by omega
      clear ho hb him hlt hk
      by_cases hz : A = 0 ∧ S = 0
      · obtain ⟨rfl, rfl⟩ := hz
        go_wp2_with fail
        refine (bounds_at1 F aU aM sM _ _ 0 m m he _ (HG.out.later HI.out.bel) HI.out.c6 (by omega) HI.out.cA HI.out.cS).mono ?_
        rintro e w4 ⟨rfl, hb4⟩
        have I4 := hide (HI.out.later hb4)
        clear hb4 HI
        go_wp2_with fail
        refine (model_zero _ 0 m m he _ (by omega) I4.out.cA I4.out.cS).mono ?_
        rintro e w5 ⟨rfl, hb5⟩
        have I5 := hide (I4.out.later hb5)
        clear hb5 I4
        go_wp2_with fail
        refine (kindok_any F aU aM sM _ 1 _ (HG.out.later I5.out.bel) (.inr (.inl ⟨rfl, rfl⟩))).mono ?_
        rintro e w5' ⟨rfl, rfl⟩
        go_wp2_with fail
        refine (in_err _ _ 102 (.pointer (some aU)) _ _ (fun w' => Below _ _ w') rfl (bounds_at1 F aU aM sM _ _ 0 m m he _ (HG.out.later I5.out.bel) I5.out.c6 (by omega) I5.out.cA I5.out.cS)).mono ?_
        rintro e w6 ⟨rfl, hb6⟩
        have I6 := hide (I5.out.later hb6)
        clear hb6
        go_wp2_with fail
        refine (kindok_any F aU aM sM _ 1 _ (HG.out.later I6.out.bel) (.inr (.inl ⟨rfl, rfl⟩))).mono ?_
        rintro e w6' ⟨rfl, rfl⟩
        go_wp2_with fail
        go_ret
        exact ⟨rfl, I6.out.bel⟩
      by_cases hlt : A < he
      · go_wp2_with fail
        refine (bounds_at2 F aU aM sM _ _ 0 m m A S he _ (HG.out.later HI.out.bel) HI.out.c6 HI.out.c10 (by omega) HI.out.cA HI.out.cS hz f1 f2 f3 f4 hlt).mono ?_
        rintro e w4 ⟨pb, rfl, hp, hb4⟩
        have I4 := hide (HI.out.later hb4)
        have P4 := hide hp
        clear hb4 hp HI
        go_wp2_with fail
        refine (model_bad _ 0 m m A S he _ (by omega) I4.out.cA I4.out.cS hz f1 f2 f3 f4 hlt).mono ?_
        rintro e w5 ⟨rfl, hb5⟩
        have I5 := hide (I4.out.later hb5)
        have P5 := hide (cell_later hb5 P4.out)
        clear hb5 I4 P4
        go_wp2_with fail
        refine (kindok_any F aU aM sM _ 2 _ (HG.out.later I5.out.bel) (.inr (.inr ⟨rfl, pb, rfl, P5.out⟩))).mono ?_
        rintro e w5' ⟨rfl, rfl⟩
        go_wp2_with fail
        refine (in_err2 _ _ _ (fun pb w' => w'.cell? ⟨pb, 1, none⟩ = some (.iface 102 (.pointer (some aM))) ∧ Below _ _ w') (bounds_at2 F aU aM sM _ _ 0 m m A S he _ (HG.out.later I5.out.bel) I5.out.c6 I5.out.c10 (by omega) I5.out.cA I5.out.cS hz f1 f2 f3 f4 hlt)).mono ?_
        rintro e w6 ⟨pb', rfl, hp6, hb6⟩
        have I6 := hide (I5.out.later hb6)
        have P6 := hide hp6
        clear hb6 hp6
        go_wp2_with fail
        refine (kindok_any F aU aM sM _ 2 _ (HG.out.later I6.out.bel) (.inr (.inr ⟨rfl, pb', rfl, P6.out⟩))).mono ?_
        rintro e w6' ⟨rfl, rfl⟩
        go_wp2_with fail
        go_ret
        exact ⟨rfl, I6.out.bel⟩
      · go_wp2_with fail
        refine (bounds_at0 _ _ 0 m m A S he _ HI.out.c6 HI.out.c10 (by omega) HI.out.cA HI.out.cS hz f1 f2 f3 f4 (by omega)).mono ?_
        rintro e w4 ⟨rfl, hb4⟩
        have I4 := hide (HI.out.later hb4)
        clear hb4 HI
        go_wp2_with fail
        refine (model_ok _ 0 m m A S he _ (by omega) I4.out.cA I4.out.cS hz f1 f2 f3 f4 (by omega)).mono ?_
        rintro e w5 ⟨rfl, hb5⟩
        have I5 := hide (I4.out.later hb5)
        clear hb5 I4
        go_wp2_with fail
        refine (kindok_nil _).mono ?_
        rintro e w5' ⟨rfl, rfl⟩
        go_wp2_with fail
        refine (in_ok _ A S (A + S) _ f1 f2 f3 f4 (by omega) (bounds_at0 _ _ 0 m m A S he _ I5.out.c6 I5.out.c10 (by omega) I5.out.cA I5.out.cS hz f1 f2 f3 f4 (by omega))).mono ?_
        rintro e w6 ⟨rfl, hb6⟩
        have I6 := hide (I5.out.later hb6)
        clear hb6 I5
        go_wp2_with fail
        refine (in_trunc F aT sT _ A S (A + S - 1) _ (HG.out.later I6.out.bel).ans (cell_later I6.out.bel HT.out) (cell_later I6.out.bel HS.out) f1 f2 f3 f4 (by omega) (bounds_at0 _ _ 0 m m A S he _ I6.out.c6 I6.out.c10 (by omega) I6.out.cA I6.out.cS hz f1 f2 f3 f4 (by omega))).mono ?_
        rintro e w7 ⟨pb, rfl, hp, hb7⟩
        have I7 := hide (I6.out.later hb7)
        have P7 := hide hp
        have t7 := cell_later I7.out.bel HT.out
        clear hb7 hp I6
        go_wp2_with fail
        refine (is_wrap_same pb 0 aT _ P7.out).mono ?_
        rintro e w7' ⟨rfl, rfl⟩
        go_wp2_with fail
        go_ret
        exact ⟨rfl, I7.out.bel⟩
end Go.Proofs.YbulkcthqFmt
