import Derived.Test.YbulkctjgGraph
namespace Go.Proofs.Ybulkctjg
open Go.RowKit
set_option linter.unusedVariables false

def FindPost (d : D) (b : Bk) (y : Dy) (c : Int) (sv tv : Value) (f : Nat → Int) (ts : List Nat) (n : Nat) (v : Nat) (w : World) (e : Ending) (w' : World) : Prop :=
  e = .returned (.tuple #[]) ∧ ∃ tv', Gis d b y tv' c sv w' ∧ w'.rowIs y.fB 48 (d.nM + 2) (fun i => .int .i32 (Plain.upd f n v i)) ∧ OV w' 96 tv' (ts ++ [n]) ∧
    Kp (fun k => k = y.G ∨ k = y.fB ∨ tv.ownBlock = some k) w w' ∧ (∀ k, tv'.ownBlock = some k → tv.ownBlock = some k ∨ w.heap.size ≤ k)

set_option maxHeartbeats 2000000 in
theorem find_walk (d : D) (b : Bk) (y : Dy) (S : Nat) (c : Int) (sv tv : Value) (f : Nat → Int) (ts : List Nat) (n v : Nat) (w : World) (hy : y.Ok S) (hok : d.Ok) (hg : Gis d b y tv c sv w) (hf : w.rowIs y.fB 48 (d.nM + 2) (fun i => .int .i32 (f i)))
    (ht : OV w 96 tv ts) (hn : n < d.nM + 2) (hfn : f n = -1) (htl : ts.length ≤ 100) (ht1 : tv.ownBlock ≠ some y.G) (ht2 : tv.ownBlock ≠ some y.fB) :
    Calls Yba.prog 57 #[.pointer (some ⟨y.G, 0, none⟩), .int .i32 n, .int .i32 v] w fun e w' => FindPost d b y c sv tv f ts n v w e w' := by
  have hG4 := hg.c4
  have hn' : (n : Int) < (d.nM : Int) + 2 := by omega
  have hc := hf.cell hn
  rw [hfn] at hc
  have hz := hf.frozen n
  have hGf : y.G ≠ y.fB := hy.ne.2.2.1
  have hfG : y.fB ≠ y.G := fun e => hGf e.symm
  have w1G : Gis d b y tv c sv (w.setCell ⟨y.fB, n, none⟩ (.int .i32 v)) := hg.of_block (Deep.blk_setCell_other _ _ _ _ hGf)
  have w1f := hf.set n (.int .i32 v)
  have w1k : Kp (fun k => k = y.G ∨ k = y.fB ∨ tv.ownBlock = some k) w (w.setCell ⟨y.fB, n, none⟩ (.int .i32 v)) := (Kp.refl _ _).setCell (fun _ => .inr (.inl rfl)) _
  have w1t : OV (w.setCell ⟨y.fB, n, none⟩ (.int .i32 v)) 96 tv ts := (Kp.set1 w y.fB n _).ov ht (fun b hb e => ht2 (by rw [hb, e]))
  have w1s : (w.setCell ⟨y.fB, n, none⟩ (.int .i32 v)).heap.size = w.heap.size := Deep.nblk_setCell _ _ _
  have HG := hide hg
  have HF := hide hf
  have HT := hide ht
  have H1 := hide (And.intro w1G (And.intro w1f (And.intro w1k (And.intro w1t w1s))))
  clear hg hf ht w1G w1f w1k w1t w1s
  have hG5 := H1.out.1.c5
  have hG5z := H1.out.1.fz 5
  go_enter Yba.func57, Yba.ntmps57
  go_wp2_with (at_builtin; (refine wpList_app _ rfl (.tmp 32) (.tmp 34) 34 96 rfl Yba.underlying34 (.int .i32 0) 1 4 info96 rfl (by omega) (by omega) tv ts.length (i32s ts) rfl (World.ownsRow.alloc H1.out.2.2.2.1 _) w.heap.size [.int .i32 (n : Int)] (heap_new_at _ _ _ (by simp)) rfl rfl (by simp [Value.oneCell']) (by omega) ?_))
  intro g cap w2 hown hkp0 hat hlt
  have hkp : Kp (fun k => tv.ownBlock = some k) (w.setCell ⟨y.fB, n, none⟩ (.int .i32 v)) w2 := ((Kp.refl _ _).alloc _).trans hkp0
  have hG2 := hkp.gis H1.out.1 ht1
  have hG5' := hG2.c5
  have hG5z' := hG2.fz 5
  have HH := hide (And.intro hown (And.intro hkp (And.intro hG2 (And.intro hat hlt))))
  clear hown hkp0 hat hlt hkp hG2 hG5 hG5z
  go_wp2
  go_end0
  obtain ⟨hown, hkp, hG2, hat, hlt⟩ := HH.out
  have hgG : g ≠ y.G := by
    rcases hat with h | h
    · intro e; exact ht1 (by rw [h, e])
    · have := HG.out.lt; omega
  refine ⟨rfl, _, hG2.set5 _, ?_, ?_, ?_, ?_⟩
  · refine (hkp.rowIs H1.out.2.1 ht2 |>.setOther hfG _).congr ?_
    intro i hi
    unfold Plain.upd
    split <;> rfl
  · refine OV.of_own (n := ts.length + 1) (((Kp.set1 w2 y.G 5 _).own (OV.snoc hown) hgG))
  · exact (H1.out.2.2.1.trans' hkp (fun i hi e => .inr (.inr e))).setCell (fun _ => .inl rfl) _
  · intro k hk
    have hk' : g = k := by simpa [Value.ownBlock] using hk
    subst hk'
    rcases hat with h | h
    · exact .inl h
    · exact .inr (by omega)
end Go.Proofs.Ybulkctjg
