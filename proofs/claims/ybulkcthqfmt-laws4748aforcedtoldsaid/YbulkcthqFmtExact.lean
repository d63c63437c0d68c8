import Derived.Test.YbulkcthqFmtSlices
namespace Go.Proofs.YbulkcthqFmt
open Go.RowKit Go.Extern.Stop Go.Stop Go.Extern
set_option linter.unusedVariables false

/-! ### the plain model -/
def mK (len : Nat) (A S he : Int) : Int := if len < 5 then 1 else if A = 0 ∧ S = 0 then 1 else if A < he then 2 else 0
def mS (len : Nat) (A S he : Int) : Int := if mK len A S he = 0 then A else 0
def mE (len : Nat) (A S he : Int) : Int := if mK len A S he = 0 then A + S else 0

/-- what is known of the sentinels -/
structure Globs (F : Interp) (w : World) (aU aM : Addr) (sM : ByteArray) : Prop where
  ans : F.answers w.tape
  hU : w.cell? ⟨3, 0, none⟩ = some (.iface 102 (.pointer (some aU)))
  hM : w.cell? ⟨4, 0, none⟩ = some (.iface 102 (.pointer (some aM)))
  sM : w.cell? aM = some (.string sM)
  ne : aU ≠ aM
  bU : ∃ c t, w.heap[aU.block]? = some (.cells c t (0, 0))
  bM : ∃ c t, w.heap[aM.block]? = some (.cells c t (0, 0))

theorem lt_of_heap {w : World} {k : Nat} {o : Obj} (h : w.heap[k]? = some o) : k < w.heap.size := by
  rcases Nat.lt_or_ge k w.heap.size with h' | h'
  · exact h'
  · rw [Array.getElem?_eq_none h'] at h; cases h

theorem Globs.later {F : Interp} {w w' : World} {aU aM : Addr} {sM : ByteArray} (h : Globs F w aU aM sM) (hb : Below w.heap.size w w') : Globs F w' aU aM sM := by
  obtain ⟨h1, h2, h3, h4, h5, ⟨c, t, h6⟩, ⟨c', t', h7⟩⟩ := h
  exact ⟨by rw [hb.tape]; exact h1, cell_later hb h2, cell_later hb h3, cell_later hb h4, h5, ⟨c, t, by rw [hb.block _ (lt_of_heap h6)]; exact h6⟩, ⟨c', t', by rw [hb.block _ (lt_of_heap h7)]; exact h7⟩⟩

def ErrOf (w : World) (aU aM : Addr) (er : Value) (k : Int) : Prop :=
  (k = 0 ∧ er = .nilIface) ∨ (k = 1 ∧ er = .iface 102 (.pointer (some aU))) ∨ (k = 2 ∧ ∃ pb, er = .iface 86 (.pointer (some ⟨pb, 0, none⟩)) ∧ w.cell? ⟨pb, 1, none⟩ = some (.iface 102 (.pointer (some aM))))
theorem ErrOf.later {w w' : World} {aU aM : Addr} {er : Value} {k : Int} (h : ErrOf w aU aM er k) (hb : Below w.heap.size w w') : ErrOf w' aU aM er k := by
  rcases h with h | h | ⟨h1, pb, h2, h3⟩
  · exact .inl h
  · exact .inr (.inl h)
  · exact .inr (.inr ⟨h1, pb, h2, cell_later hb h3⟩)

theorem kindok_any (F : Interp) (aU aM : Addr) (sM : ByteArray) (er : Value) (k : Int) (w : World) (hg : Globs F w aU aM sM) (he : ErrOf w aU aM er k) :
    Calls Ybaf.prog 9 #[er, .int .i64 k] w fun e w' => e = .returned (.bool true) ∧ w' = w := by
  obtain ⟨h1, h2, h3, h4, h5, ⟨c, t, h6⟩, ⟨c', t', h7⟩⟩ := hg
  rcases he with ⟨rfl, rfl⟩ | ⟨rfl, rfl⟩ | ⟨rfl, pb, rfl, hp⟩
  · exact kindok_nil w
  · exact kindok_U aU aM c c' t t' w h2 h3 h5 h6 h7
  · exact kindok_M pb aU aM c c' t t' w h2 h3 hp h5 h6 h7

def Fits (len : Nat) (A S : Nat → Int) : Prop := ∀ i, i < len → 0 ≤ A i ∧ A i ≤ 4294967295 ∧ 0 ≤ S i ∧ S i ≤ 4294967295

theorem bounds_any (F : Interp) (aU aM : Addr) (sM : ByteArray) (bi : Nat) (a : Option Addr) (len cap : Nat) (A S : Nat → Int) (he : Int) (w : World) (hg : Globs F w aU aM sM)
    (hd : w.cell? ⟨bi, 6, none⟩ = some (.slice a len cap)) (hH : w.cell? ⟨bi, 10, none⟩ = some (.int .i64 he)) (hD : Dirs w a len cap A S) (hf : Fits len A S) :
    Calls Ybaf.prog 7 #[.pointer (some ⟨bi, 0, none⟩)] w fun e w' => ∃ er, e = .returned (.tuple #[.int .i64 (mS len (A 4) (S 4) he), .int .i64 (mE len (A 4) (S 4) he), er]) ∧ ErrOf w' aU aM er (mK len (A 4) (S 4) he) ∧ Below w.heap.size w w' := by
  by_cases hl : len < 5
  · have e1 : mK len (A 4) (S 4) he = 1 := by unfold mK; rw [if_pos hl]
    have e2 : mS len (A 4) (S 4) he = 0 := by unfold mS; rw [e1]; rfl
    have e3 : mE len (A 4) (S 4) he = 0 := by unfold mE; rw [e1]; rfl
    rw [e1, e2, e3]
    refine (bounds_none bi aU w hg.hU (cert_short bi a len cap w hd (by omega))).mono ?_
    rintro e w' ⟨rfl, hb⟩
    exact ⟨_, rfl, .inr (.inl ⟨rfl, rfl⟩), hb⟩
  obtain ⟨b, off, rfl, hc1, hc2, hc⟩ := hD.at (by omega)
  have cA := hc (4 * 2) (by omega)
  have cS := hc (4 * 2 + 1) (by omega)
  rw [dcell_even] at cA
  rw [dcell_odd] at cS
  obtain ⟨f1, f2, f3, f4⟩ := hf 4 (by omega)
  by_cases hz : A 4 = 0 ∧ S 4 = 0
  · have e1 : mK len (A 4) (S 4) he = 1 := by unfold mK; rw [if_neg hl, if_pos hz]
    have e2 : mS len (A 4) (S 4) he = 0 := by unfold mS; rw [e1]; rfl
    have e3 : mE len (A 4) (S 4) he = 0 := by unfold mE; rw [e1]; rfl
    rw [e1, e2, e3]
    rw [hz.1] at cA
    rw [hz.2] at cS
    refine (bounds_none bi aU w hg.hU (cert_zero bi b off len cap w hd (by omega) cA cS)).mono ?_
    rintro e w' ⟨rfl, hb⟩
    exact ⟨_, rfl, .inr (.inl ⟨rfl, rfl⟩), hb⟩
  have hcert := cert_some bi b off len cap (A 4) (S 4) w hd (by omega) cA cS hz
  by_cases hlt : A 4 < he
  · have e1 : mK len (A 4) (S 4) he = 2 := by unfold mK; rw [if_neg hl, if_neg hz, if_pos hlt]
    have e2 : mS len (A 4) (S 4) he = 0 := by unfold mS; rw [e1]; rfl
    have e3 : mE len (A 4) (S 4) he = 0 := by unfold mE; rw [e1]; rfl
    rw [e1, e2, e3]
    refine (bounds_bad F bi (A 4) (S 4) he aM sM w hg.ans hg.hM hg.sM hH f1 f2 f3 f4 hlt hcert).mono ?_
    rintro e w' ⟨pb, rfl, hp, hb⟩
    exact ⟨_, rfl, .inr (.inr ⟨rfl, pb, rfl, hp⟩), hb⟩
  · have e1 : mK len (A 4) (S 4) he = 0 := by unfold mK; rw [if_neg hl, if_neg hz, if_neg hlt]
    have e2 : mS len (A 4) (S 4) he = A 4 := by unfold mS; rw [e1]; rfl
    have e3 : mE len (A 4) (S 4) he = A 4 + S 4 := by unfold mE; rw [e1]; rfl
    rw [e1, e2, e3]
    refine (bounds_ok bi (A 4) (S 4) he w hH f1 f2 f3 f4 hlt hcert).mono ?_
    rintro e w' ⟨rfl, hb⟩
    exact ⟨_, rfl, .inl ⟨rfl, rfl⟩, hb⟩

theorem model_any (a : Option Addr) (len cap : Nat) (A S : Nat → Int) (he : Int) (w : World) (hD : Dirs w a len cap A S) (hf : Fits len A S) :
    Calls Ybaf.prog 8 #[.slice a len cap, .int .i64 he] w fun e w' => e = .returned (.tuple #[.int .i64 (mS len (A 4) (S 4) he), .int .i64 (mE len (A 4) (S 4) he), .int .i64 (mK len (A 4) (S 4) he)]) ∧ Below w.heap.size w w' := by
  by_cases hl : len < 5
  · have e1 : mK len (A 4) (S 4) he = 1 := by unfold mK; rw [if_pos hl]
    have e2 : mS len (A 4) (S 4) he = 0 := by unfold mS; rw [e1]; rfl
    have e3 : mE len (A 4) (S 4) he = 0 := by unfold mE; rw [e1]; rfl
    rw [e1, e2, e3]
    exact model_short a len cap he w hl
  obtain ⟨b, off, rfl, hc1, hc2, hc⟩ := hD.at (by omega)
  have cA := hc (4 * 2) (by omega)
  have cS := hc (4 * 2 + 1) (by omega)
  rw [dcell_even] at cA
  rw [dcell_odd] at cS
  obtain ⟨f1, f2, f3, f4⟩ := hf 4 (by omega)
  by_cases hz : A 4 = 0 ∧ S 4 = 0
  · have e1 : mK len (A 4) (S 4) he = 1 := by unfold mK; rw [if_neg hl, if_pos hz]
    have e2 : mS len (A 4) (S 4) he = 0 := by unfold mS; rw [e1]; rfl
    have e3 : mE len (A 4) (S 4) he = 0 := by unfold mE; rw [e1]; rfl
    rw [e1, e2, e3]
    rw [hz.1] at cA
    rw [hz.2] at cS
    exact model_zero b off len cap he w (by omega) cA cS
  by_cases hlt : A 4 < he
  · have e1 : mK len (A 4) (S 4) he = 2 := by unfold mK; rw [if_neg hl, if_neg hz, if_pos hlt]
    have e2 : mS len (A 4) (S 4) he = 0 := by unfold mS; rw [e1]; rfl
    have e3 : mE len (A 4) (S 4) he = 0 := by unfold mE; rw [e1]; rfl
    rw [e1, e2, e3]
    exact model_bad b off len cap (A 4) (S 4) he w (by omega) cA cS hz f1 f2 f3 f4 hlt
  · have e1 : mK len (A 4) (S 4) he = 0 := by unfold mK; rw [if_neg hl, if_neg hz, if_neg hlt]
    have e2 : mS len (A 4) (S 4) he = A 4 := by unfold mS; rw [e1]; rfl
    have e3 : mE len (A 4) (S 4) he = A 4 + S 4 := by unfold mE; rw [e1]; rfl
    rw [e1, e2, e3]
    exact model_ok b off len cap (A 4) (S 4) he w (by omega) cA cS hz f1 f2 f3 f4 hlt

theorem clone_any (a : Option Addr) (len cap : Nat) (A S : Nat → Int) (w : World) (hm : len ≤ 1024) (hD : Dirs w a len cap A S) :
    Calls Ybaf.prog 6 #[.slice a len cap] w fun e w' => ∃ a' cap', e = .returned (.slice a' len cap') ∧ Dirs w' a' len cap' A S ∧ Below w.heap.size w w' := by
  by_cases hl : 0 < len
  · obtain ⟨b, off, rfl, hc1, hc2, hc⟩ := hD.at hl
    exact clone_some b off len cap A S w hl hm hc
  · obtain rfl : len = 0 := by omega
    rcases hD with ⟨rfl, _, rfl⟩ | ⟨x, rfl, _⟩
    · refine (clone_nil w).mono ?_
      rintro e w' ⟨rfl, rfl⟩
      exact ⟨_, _, rfl, .inl ⟨rfl, rfl, rfl⟩, Below.refl _ _⟩
    · refine (clone_empty x cap w).mono ?_
      rintro e w' ⟨rfl, hb⟩
      exact ⟨_, _, rfl, .inr ⟨_, rfl, Nat.le_refl _, Nat.zero_le _, fun j hj => by omega⟩, hb⟩

set_option maxHeartbeats 1000000 in
theorem exact_walk (F : Interp) (aU aM : Addr) (sM : ByteArray) (a : Option Addr) (len cap : Nat) (A S : Nat → Int) (he : Int) (w : World) (hg : Globs F w aU aM sM) (hD : Dirs w a len cap A S) (hf : Fits len A S) :
    Calls Ybaf.prog 3 #[.slice a len cap, .int .i64 he] w fun e w' => e = .returned (.bool true) ∧ Below w.heap.size w w' := by
  by_cases hm : len ≤ 1024
  · have hm' : ¬ (1024 : Int) < (len : Int) := by omega
    have HG := hide hg
    have HD := hide hD
    have HF := hide hf
    clear hg hD hf
    go_enter Ybaf.func3, Ybaf.ntmps3
    go_wp2_with fail
    refine (clone_any a len cap A S _ hm HD.out).mono ?_
    rintro e w1 ⟨a', cap', rfl, hD1, hb1⟩
    have HD1 := hide hD1
    have HB1 := hide hb1
    clear hD1 hb1
    go_wp2_with fail
    refine (bounds_any F aU aM sM _ a' len cap' A S he _ ?_ ?_ ?_ ?_ HF.out).mono ?_
    · exact HG.out.later (HB1.out.alloc HB1.out.size _)
    · go_simp
    · go_simp
    · exact HD1.out.later ((Below.refl _ _).alloc (Nat.le_refl _) _)
    rintro e w2 ⟨er, rfl, hE, hb2⟩
    have bel2 : Below w.heap.size w w2 := (HB1.out.alloc HB1.out.size _).trans (hb2.mono (by have := HB1.out.size; simp; omega))
    have dir2 := HD1.out.later (((Below.refl _ _).alloc (Nat.le_refl _) _).trans (hb2.mono (by simp)))
    have im6 : w2.cell? ⟨w1.heap.size, 6, none⟩ = some (.slice a' len cap') := cell_later hb2 (by go_simp)
    have im10 : w2.cell? ⟨w1.heap.size, 10, none⟩ = some (.int .i64 he) := cell_later hb2 (by go_simp)
    have HB2 := hide bel2
    have HD2 := hide dir2
    have HE := hide hE
    clear hE hb2 bel2 dir2
    go_wp2_with fail
    refine (model_any a len cap A S he _ (HD.out.later HB2.out) HF.out).mono ?_
    rintro e w3 ⟨rfl, hb3⟩
    have im6' := cell_later hb3 im6
    have im10' := cell_later hb3 im10
    have HB3 := hide hb3
    clear hb3 im6 im10
    go_wp2_with fail
    refine (kindok_any F aU aM sM er _ _ ?_ ?_).mono ?_
    · exact (HG.out.later HB2.out).later HB3.out
    · exact HE.out.later HB3.out
    rintro e w4 ⟨rfl, rfl⟩
    go_wp2_with fail
    refine (equal_any a' a len cap' cap A S _ ?_ ?_).mono ?_
    · exact HD2.out.later HB3.out
    · exact (HD.out.later HB2.out).later HB3.out
    rintro e w5 ⟨rfl, n, rfl⟩
    go_wp2_with fail
    go_ret
    exact ⟨rfl, below_drewN (HB2.out.trans (HB3.out.mono HB2.out.size)) _⟩
  · have hm' : (1024 : Int) < (len : Int) := by omega
    clear hg hD hf
    go_enter Ybaf.func3, Ybaf.ntmps3
    go_wp2
    go_ret
    exact ⟨rfl, Below.refl _ _⟩
end Go.Proofs.YbulkcthqFmt
