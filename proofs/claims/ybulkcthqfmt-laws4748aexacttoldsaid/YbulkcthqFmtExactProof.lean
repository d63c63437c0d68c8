import Derived.Test.YbulkcthqFmtLaid
import Derived.Test.YbulkcthqFmtTie
import Derived.Test.YbulkcthqFmtCards
namespace Go.Proofs.YbulkcthqFmt
open Go.ChangeShapes Go.WideShapes Go.ChangeAt Go.RowKit Go.Kit
open Go.Extern.Stop Go.Stop Go.Extern
set_option linter.unusedVariables false

theorem laid_met (os : Os) (args : Array Value) : laidMet Ybaf.prog Rows.lawS4748AExactRow.laid ((laidWorld Ybaf.prog os).forCall (fun _ _ => 0) ⟨#[], args, []⟩).memory :=
  laidMet_of_run (ps := [.cell 3 0, .cell (lowOf Ybaf.prog) 0, .cell 4 0, .cell (lowOf Ybaf.prog + 1) 0]) 8 (by kernel_rfl) (by kernel_rfl) (by kernel_rfl)

set_option maxRecDepth 100000 in
theorem exact_lifted (os : Os) (started : os.Started) (H : Type) (enc : TypeId × Value → H) :
    ReturnsInTold none {} Ybaf.checked os 3 .any Input.okWide ((OpenSpec.ofChange Rows.lawS4748AExactSpec).preRow enc Ybaf.prog Ybaf.f3 Rows.lawS4748AExactRow.domain false Rows.lawS4748AExactRow.laid) (fun F => ((OpenSpec.ofChange Rows.lawS4748AExactSpec).at F).post enc Ybaf.prog Ybaf.f3 false true false false) (aloneAtReturn Ybaf.prog) nothingAlways := by
  refine returnsInTold_of_row (C := Ybaf.checked) (s := OpenSpec.ofChange Rows.lawS4748AExactSpec) (by kernel_rfl) Ybaf.own started (by kernel_rfl) Ybaf.func3
    (OpenSpec.witness_stopped_at (enc := enc) (C := Ybaf.checked) false (laidWorld Ybaf.prog os) #[.slice none 0 0, .int .i64 0] rfl (by kernel_rfl) (by kernel_rfl) (by kernel_rfl)
      (OpenSpec.preRow_of_B rfl 8 (by kernel_rfl) (by kernel_rfl) (laid_met os _))) ?_
  intro F W base args ds gs before _ hF hval0 hW _ _ _ hL _
  have hval : ∀ (j : Nat) t v, Ybaf.f3.params[j]? = some t → args[j]? = some v → Value.okWide Ybaf.prog W .any base t v := hval0
  have hW' := hW
  obtain ⟨p, q, hA0, hV0, rfl, hfz, hnd⟩ := hW
  have hA : DataW.TrodAll enc Ybaf.prog W 0 (fun _ => true) true Ybaf.f3.params.toList args.toList ds p := hA0
  have hV : DataW.TrodVars enc Ybaf.prog W (fun _ => true) Rows.lawS4748AExactSpec.vars gs q := hV0
  rw [Ybaf.params3] at hA hval
  obtain ⟨v0, v1, d0, d1, p0, p1, rfl, rfl, rfl, h0, h1⟩ := trodAll_two hA
  obtain ⟨a, len, cap, rfl⟩ := okWide_slice Ybaf.underlying22 (hval 0 22 v0 rfl rfl)
  have k0 := h0
  have lt0 : ∀ x ∈ p0, x.block < W.heap.size := by obtain ⟨m, hm⟩ := k0; exact DataW.trod_lt m _ _ _ hm
  obtain ⟨A, S, hD, hFit⟩ : ∃ A S, Dirs W a len cap A S ∧ Fits len A S := by
    obtain ⟨fuel, hf⟩ := h0
    exact dirs_of (v := .slice a len cap) hf
  obtain ⟨n, rfl, rfl, rfl, wn⟩ := open_int Ybaf.underlying2 (hval 1 2 v1 rfl rfl) h1
  have hL' : laidMet Ybaf.prog Rows.lawS4748AExactRow.laid W := hL
  obtain ⟨a0, a1, s0, s1, c0, c1, t0, t1, hv0, hv1, hc0, hs0, hz0, hc1, hs1, hz1, hne, hb0, hb1⟩ := laid_sentinels2 (g0 := 3) (g1 := 4) hL' (by kernel_rfl) (by kernel_rfl) (by kernel_rfl) (by kernel_rfl) Ybaf.underlying36 Ybaf.row102 Ybaf.underlying102 Ybaf.underlying104 rfl rfl Ybaf.underlying9 Ybaf.cells104 Ybaf.cells9
  have hg0 : W.cell? ⟨3, 0, none⟩ = some (.iface 102 (.pointer (some a0))) := by simpa using World.var?_cell (by kernel_rfl) hv0 0
  have hg1 : W.cell? ⟨4, 0, none⟩ = some (.iface 102 (.pointer (some a1))) := by simpa using World.var?_cell (by kernel_rfl) hv1 0
  have l0 : 3 < W.heap.size := World.block_lt_of_cell? _ _ hg0
  have l1 : 4 < W.heap.size := World.block_lt_of_cell? _ _ hg1
  have vr : ∀ {X : World}, Below W.heap.size W X → ∀ sp : Nat → Bool, DataW.TrodVars enc Ybaf.prog X sp Rows.lawS4748AExactSpec.vars [tok enc (.iface 102 (.pointer (some a0))), tok enc (.iface 102 (.pointer (some a1)))] [.cell 3 0, .cell 4 0] :=
    fun hb sp => vars_read2 enc (by kernel_rfl) (by kernel_rfl) Ybaf.underlying36 (var?_below (g := 3) hb (by kernel_rfl) l0 hv0) trivial (by kernel_rfl) (by kernel_rfl) Ybaf.underlying36 (var?_below (g := 4) hb (by kernel_rfl) l1 hv1) trivial sp
  obtain ⟨rfl, rfl⟩ := hV.unique (vr (Below.refl _ _) _)
  clear hA0 hV0 hval0
  refine (exact_walk F.told a0 a1 s1 a len cap A S n W ⟨hF, hg0, hg1, hc1, hne, ⟨c0, t0, hb0⟩, ⟨c1, t1, hb1⟩⟩ hD hFit).mono fun e W' ⟨he, bel⟩ => ?_
  subst he
  exact ⟨_, rfl, _, _, _, [], _, [.cell 3 0, .cell 4 0], hW', trodAll_mk1 (shut_bool Ybaf.underlying4 _), trodAll_mk2 (Below.trod Ybaf.laidOut (by kernel_rfl) (of_decide_eq_true (by kernel_rfl)) k0 bel lt0) (shut_int Ybaf.underlying2 wn), vr bel _, bel.frame _, fun h => by cases h⟩

theorem exact_told : Rows.LawS4748AExactToldSaid :=
  Claim7.holds_of_told_tied_any_at .later 3 Ybaf.f3 "fmt.errorf" [] [] _ _ _ _ _ (by kernel_rfl) rfl rfl rfl Ybaf.laidOut (by kernel_rfl) rfl ⟨rfl, rfl, rfl, rfl, rfl, rfl, rfl⟩ rfl rfl (by kernel_rfl) (by kernel_rfl) Ybaf.func3 (by kernel_rfl)
    (of_decide_eq_true (by kernel_rfl)) (of_decide_eq_true (by kernel_rfl)) Ybaf.stops.symm rfl Ybaf.stopKnobs.symm (by kernel_rfl)
    (by kernel_rfl) (by kernel_rfl) (by kernel_rfl) (by kernel_rfl) (by kernel_rfl) (by kernel_rfl) (by kernel_rfl) (by kernel_rfl) (by kernel_rfl) rfl (by kernel_rfl) rfl rfl
    rfl rfl
    rfl (by kernel_rfl) (by kernel_rfl) (by kernel_rfl) (by decide) (by kernel_rfl) lawS4748AExact_row_tie
    (OpenClaim.moreEntering_of (by kernel_rfl) (by kernel_rfl) (by kernel_rfl) (by kernel_rfl) (by kernel_rfl) (by kernel_rfl) (by kernel_rfl) (by kernel_rfl) (by kernel_rfl) (by kernel_rfl))
    ⟨_, WideRow.started_initial, Ybaf.quiet _⟩
    (fun os started _ H enc _ => exact_lifted os started H enc)
end Go.Proofs.YbulkcthqFmt
