import Derived.Test.YbulkcthqFmtLaid
import Derived.Test.YbulkcthqFmtForced
import Derived.Test.YbulkcthqFmtTie
import Derived.Test.YbulkcthqFmtCards
namespace Go.Proofs.YbulkcthqFmt
open Go.ChangeShapes Go.WideShapes Go.ChangeAt Go.RowKit Go.Kit
open Go.Extern.Stop Go.Stop Go.Extern
set_option linter.unusedVariables false


theorem laid_met3 (os : Os) (args : Array Value) : laidMet Ybaf.prog Rows.lawS4748AForcedRow.laid ((laidWorld Ybaf.prog os).forCall (fun _ _ => 0) ⟨#[], args, []⟩).memory :=
  laidMet_of_run (ps := [.cell 3 0, .cell (lowOf Ybaf.prog) 0, .cell 0 0, .cell (lowOf Ybaf.prog + 2) 0, .cell 4 0, .cell (lowOf Ybaf.prog + 1) 0]) 8 (by kernel_rfl) (by kernel_rfl) (by kernel_rfl)

/-- three sentinels of one type: the first and the third are different pointers -/
theorem laid_sentinels3 {P : Program} {n0 n1 n2 nm : String} {text0 text1 text2 : List UInt8} {r : List (String × DataW Unit)} {W : World} {g0 g1 g2 : Nat} {ti tp te ts : TypeId} {ms : Array (String × TypeId)} {f : Field}
    (h : laidMet P ((n0, .iface nm (.ptr (.agg [.lit (.string text0)]))) :: (n1, .iface nm (.ptr (.agg [.lit (.string text1)]))) :: (n2, .iface nm (.ptr (.agg [.lit (.string text2)]))) :: r) W)
    (hg0 : P.globalNamed n0 = some g0) (ht0 : (P.globals[g0]?).map (·.type) = some ti) (hg1 : P.globalNamed n1 = some g1) (ht1 : (P.globals[g1]?).map (·.type) = some ti) (hg2 : P.globalNamed n2 = some g2) (ht2 : (P.globals[g2]?).map (·.type) = some ti)
    (hi : P.underlying ti = some (.interface ms)) (hrow : ∀ u, P.typeName? 3 u = some nm → u = tp)
    (hp : P.underlying tp = some (.pointer te)) (he : P.underlying te = some (.struct #[f])) (hft : f.type = ts) (hfo : f.offset = 0) (hs : P.underlying ts = some .string) (hc : P.cellsOf te = 1) (hcs : P.cellsOf ts = 1) :
    ∃ (a0 a1 a2 : Addr) (s1 s2 : ByteArray) (c0 c2 : Array Value) (t0 t2 : TypeId),
      W.var? P n0 = some #[.iface tp (.pointer (some a0))] ∧ W.var? P n1 = some #[.iface tp (.pointer (some a1))] ∧ W.var? P n2 = some #[.iface tp (.pointer (some a2))] ∧
      W.cell? a1 = some (.string s1) ∧ W.cell? a2 = some (.string s2) ∧ a0 ≠ a2 ∧
      W.heap[a0.block]? = some (.cells c0 t0 (0, 0)) ∧ W.heap[a2.block]? = some (.cells c2 t2 (0, 0)) := by
  obtain ⟨ps, ⟨g0', t0', cs0, f0, p0, q0, hg0', ht0', hv0, hd0, ⟨g1', t1', cs1, f1, p1, q1, hg1', ht1', hv1, hd1, ⟨g2', t2', cs2, f2, p2, q2, hg2', ht2', hv2, hd2, _, e2⟩, e1⟩, e0⟩, hnd, hrows⟩ := h
  obtain rfl := Option.some.inj (hg0.symm.trans hg0')
  obtain rfl := Option.some.inj (hg1.symm.trans hg1')
  obtain rfl := Option.some.inj (hg2.symm.trans hg2')
  obtain rfl := Option.some.inj (ht0.symm.trans ht0')
  obtain rfl := Option.some.inj (ht1.symm.trans ht1')
  obtain rfl := Option.some.inj (ht2.symm.trans ht2')
  subst e2
  subst e1
  subst e0
  obtain ⟨l0⟩ := cs0
  obtain ⟨l1⟩ := cs1
  obtain ⟨l2⟩ := cs2
  have ok0 : ∀ u v, l0 = [.iface u v] → Value.okWide P W .any 0 u v := fun u v e => by
    subst e
    exact (hrows g0 0 (by simp [MemPlace.row])).2 u v (by simpa using World.var?_cell hg0' hv0 0)
  have ok1 : ∀ u v, l1 = [.iface u v] → Value.okWide P W .any 0 u v := fun u v e => by
    subst e
    exact (hrows g1 0 (by simp [MemPlace.row])).2 u v (by simpa using World.var?_cell hg1' hv1 0)
  have ok2 : ∀ u v, l2 = [.iface u v] → Value.okWide P W .any 0 u v := fun u v e => by
    subst e
    exact (hrows g2 0 (by simp [MemPlace.row])).2 u v (by simpa using World.var?_cell hg2' hv2 0)
  obtain ⟨a0, s0, rfl, hc0, hs0, hz0, rfl⟩ := errorString_of_trod hi hrow hp he hft hfo hs hc hcs hd0 ok0
  obtain ⟨a1, s1, rfl, hc1, hs1, hz1, rfl⟩ := errorString_of_trod hi hrow hp he hft hfo hs hc hcs hd1 ok1
  obtain ⟨a2, s2, rfl, hc2, hs2, hz2, rfl⟩ := errorString_of_trod hi hrow hp he hft hfo hs hc hcs hd2 ok2
  obtain ⟨c0, t0, hb0⟩ := (hrows a0.block a0.off (by simp [MemPlace.row])).1
  obtain ⟨c2, t2, hb2⟩ := (hrows a2.block a2.off (by simp [MemPlace.row])).1
  refine ⟨a0, a1, a2, s1, s2, c0, c2, t0, t2, hv0, hv1, hv2, hc1, hc2, ?_, hb0, hb2⟩
  rintro rfl
  simp [MemPlace.row] at hnd

theorem vars_read3 {H : Type} (enc : TypeId × Value → H) {P : Program} {W : World} {n0 n1 n2 : String} {g0 g1 g2 : Nat} {t0 t1 t2 : TypeId} {ms0 ms1 ms2 : Array (String × TypeId)} {x0 x1 x2 : Value}
    (hg0 : P.globalNamed n0 = some g0) (ht0 : (P.globals[g0]?).map (·.type) = some t0) (hi0 : P.underlying t0 = some (.interface ms0)) (h0 : W.var? P n0 = some #[x0]) (i0 : IsIface x0)
    (hg1 : P.globalNamed n1 = some g1) (ht1 : (P.globals[g1]?).map (·.type) = some t1) (hi1 : P.underlying t1 = some (.interface ms1)) (h1 : W.var? P n1 = some #[x1]) (i1 : IsIface x1)
    (hg2 : P.globalNamed n2 = some g2) (ht2 : (P.globals[g2]?).map (·.type) = some t2) (hi2 : P.underlying t2 = some (.interface ms2)) (h2 : W.var? P n2 = some #[x2]) (i2 : IsIface x2) (sp : Nat → Bool) :
    DataW.TrodVars enc P W sp [n0, n1, n2] [tok enc x0, tok enc x1, tok enc x2] [.cell g0 0, .cell g1 0, .cell g2 0] :=
  ⟨g0, t0, #[x0], 1, [], [.cell g1 0, .cell g2 0], hg0, ht0, h0, trod_held hi0 i0 0, ⟨g1, t1, #[x1], 1, [], [.cell g2 0], hg1, ht1, h1, trod_held hi1 i1 0, ⟨g2, t2, #[x2], 1, [], [], hg2, ht2, h2, trod_held hi2 i2 0, rfl, rfl⟩, rfl⟩, rfl⟩

theorem wf_u8 {n : Int} (h : (Lit.int .u8 n).wf = true) : 0 ≤ n ∧ n ≤ 255 := by
  have e1 : IntKind.u8.min = 0 := rfl
  have e2 : IntKind.u8.max = 255 := rfl
  simp [Lit.wf, e1, e2] at h
  omega

set_option maxRecDepth 100000 in
theorem forced_lifted (os : Os) (started : os.Started) (H : Type) (enc : TypeId × Value → H) :
    ReturnsInTold none {} Ybaf.checked os 4 .any Input.okWide ((OpenSpec.ofChange Rows.lawS4748AForcedSpec).preRow enc Ybaf.prog Ybaf.f4 Rows.lawS4748AForcedRow.domain false Rows.lawS4748AForcedRow.laid) (fun F => ((OpenSpec.ofChange Rows.lawS4748AForcedSpec).at F).post enc Ybaf.prog Ybaf.f4 false true false false) (aloneAtReturn Ybaf.prog) nothingAlways := by
  refine returnsInTold_of_row (C := Ybaf.checked) (s := OpenSpec.ofChange Rows.lawS4748AForcedSpec) (by kernel_rfl) Ybaf.own started (by kernel_rfl) Ybaf.func4
    (OpenSpec.witness_stopped_at (enc := enc) (C := Ybaf.checked) false (laidWorld Ybaf.prog os) #[.int .u32 0, .int .u32 0, .int .i64 0, .int .u8 0] rfl (by kernel_rfl) (by kernel_rfl) (by kernel_rfl)
      (OpenSpec.preRow_of_B rfl 8 (by kernel_rfl) (by kernel_rfl) (laid_met3 os _))) ?_
  intro F W base args ds gs before _ hF hval0 hW _ _ _ hL _
  have hval : ∀ (j : Nat) t v, Ybaf.f4.params[j]? = some t → args[j]? = some v → Value.okWide Ybaf.prog W .any base t v := hval0
  have hW' := hW
  obtain ⟨p, q, hA0, hV0, rfl, hfz, hnd⟩ := hW
  have hA : DataW.TrodAll enc Ybaf.prog W 0 (fun _ => true) true Ybaf.f4.params.toList args.toList ds p := hA0
  have hV : DataW.TrodVars enc Ybaf.prog W (fun _ => true) Rows.lawS4748AForcedSpec.vars gs q := hV0
  rw [Ybaf.params4] at hA hval
  obtain ⟨v0, vs0, d0, ds0, p0, q0, hargs, rfl, rfl, h0, r0⟩ := trodAll_cons hA
  obtain ⟨v1, vs1, d1, ds1, p1, q1, rfl, rfl, rfl, h1, r1⟩ := trodAll_cons r0
  obtain ⟨v2, vs2, d2, ds2, p2, q2, rfl, rfl, rfl, h2, r2⟩ := trodAll_cons r1
  obtain ⟨v3, vs3, d3, ds3, p3, q3, rfl, rfl, rfl, h3, r3⟩ := trodAll_cons r2
  obtain ⟨rfl, rfl, rfl⟩ := trodAll_nil r3
  obtain rfl : args = #[v0, v1, v2, v3] := by cases args; simp_all
  obtain ⟨x0, rfl, rfl, rfl, w0⟩ := open_int Ybaf.underlying25 (hval 0 25 v0 rfl rfl) h0
  obtain ⟨x1, rfl, rfl, rfl, w1⟩ := open_int Ybaf.underlying25 (hval 1 25 v1 rfl rfl) h1
  obtain ⟨x2, rfl, rfl, rfl, w2⟩ := open_int Ybaf.underlying2 (hval 2 2 v2 rfl rfl) h2
  obtain ⟨x3, rfl, rfl, rfl, w3⟩ := open_int Ybaf.underlying5 (hval 3 5 v3 rfl rfl) h3
  have hL' : laidMet Ybaf.prog Rows.lawS4748AForcedRow.laid W := hL
  obtain ⟨aU, aT, aM, sT, sM, c0, c2, t0, t2, hv0, hv1, hv2, hcT, hcM, hne, hb0, hb2⟩ := laid_sentinels3 (g0 := 3) (g1 := 0) (g2 := 4) hL' (by kernel_rfl) (by kernel_rfl) (by kernel_rfl) (by kernel_rfl) (by kernel_rfl) (by kernel_rfl) Ybaf.underlying36 Ybaf.row102 Ybaf.underlying102 Ybaf.underlying104 rfl rfl Ybaf.underlying9 Ybaf.cells104 Ybaf.cells9
  have hgU : W.cell? ⟨3, 0, none⟩ = some (.iface 102 (.pointer (some aU))) := by simpa using World.var?_cell (by kernel_rfl) hv0 0
  have hgT : W.cell? ⟨0, 0, none⟩ = some (.iface 102 (.pointer (some aT))) := by simpa using World.var?_cell (by kernel_rfl) hv1 0
  have hgM : W.cell? ⟨4, 0, none⟩ = some (.iface 102 (.pointer (some aM))) := by simpa using World.var?_cell (by kernel_rfl) hv2 0
  have l0 : 3 < W.heap.size := World.block_lt_of_cell? _ _ hgU
  have l1 : 0 < W.heap.size := World.block_lt_of_cell? _ _ hgT
  have l2 : 4 < W.heap.size := World.block_lt_of_cell? _ _ hgM
  have vr : ∀ {X : World}, Below W.heap.size W X → ∀ sp : Nat → Bool, DataW.TrodVars enc Ybaf.prog X sp Rows.lawS4748AForcedSpec.vars [tok enc (.iface 102 (.pointer (some aT))), tok enc (.iface 102 (.pointer (some aU))), tok enc (.iface 102 (.pointer (some aM)))] [.cell 0 0, .cell 3 0, .cell 4 0] :=
    fun hb sp => vars_read3 enc (by kernel_rfl) (by kernel_rfl) Ybaf.underlying36 (var?_below (g := 0) hb (by kernel_rfl) l1 hv1) trivial (by kernel_rfl) (by kernel_rfl) Ybaf.underlying36 (var?_below (g := 3) hb (by kernel_rfl) l0 hv0) trivial (by kernel_rfl) (by kernel_rfl) Ybaf.underlying36 (var?_below (g := 4) hb (by kernel_rfl) l2 hv2) trivial sp
  obtain ⟨rfl, rfl⟩ := hV.unique (vr (Below.refl _ _) _)
  clear hA0 hV0 hval0
  have b0 := wf_u32 w0
  have b1 := wf_u32 w1
  have b3 := wf_u8 w3
  refine (forced_walk F.told aU aM aT sM sT x0 x1 x2 x3 W ⟨hF, hgU, hgM, hcM, hne, ⟨c0, t0, hb0⟩, ⟨c2, t2, hb2⟩⟩ hgT hcT b0.1 b0.2 b1.1 b1.2 b3.1 b3.2).mono fun e W' ⟨he, bel⟩ => ?_
  subst he
  exact ⟨_, rfl, _, _, _, [], _, [.cell 0 0, .cell 3 0, .cell 4 0], hW', trodAll_mk1 (shut_bool Ybaf.underlying4 _), trodAll_cons_mk (shut_int Ybaf.underlying25 w0) (trodAll_cons_mk (shut_int Ybaf.underlying25 w1) (trodAll_cons_mk (shut_int Ybaf.underlying2 w2) (trodAll_cons_mk (shut_int Ybaf.underlying5 w3) trodAll_mk0))), vr bel _, bel.frame _, fun h => by cases h⟩

theorem forced_told : Rows.LawS4748AForcedToldSaid :=
  Claim7.holds_of_told_tied_any_at .later 4 Ybaf.f4 "fmt.errorf" [] [] _ _ _ _ _ (by kernel_rfl) rfl rfl rfl Ybaf.laidOut (by kernel_rfl) rfl ⟨rfl, rfl, rfl, rfl, rfl, rfl, rfl⟩ rfl rfl (by kernel_rfl) (by kernel_rfl) Ybaf.func4 (by kernel_rfl)
    (of_decide_eq_true (by kernel_rfl)) (of_decide_eq_true (by kernel_rfl)) Ybaf.stops.symm rfl Ybaf.stopKnobs.symm (by kernel_rfl)
    (by kernel_rfl) (by kernel_rfl) (by kernel_rfl) (by kernel_rfl) (by kernel_rfl) (by kernel_rfl) (by kernel_rfl) (by kernel_rfl) (by kernel_rfl) rfl (by kernel_rfl) rfl rfl
    rfl rfl
    rfl (by kernel_rfl) (by kernel_rfl) (by kernel_rfl) (by decide) (by kernel_rfl) lawS4748AForced_row_tie
    (OpenClaim.moreEntering_of (by kernel_rfl) (by kernel_rfl) (by kernel_rfl) (by kernel_rfl) (by kernel_rfl) (by kernel_rfl) (by kernel_rfl) (by kernel_rfl) (by kernel_rfl) (by kernel_rfl))
    ⟨_, WideRow.started_initial, Ybaf.quiet _⟩
    (fun os started _ H enc _ => forced_lifted os started H enc)
end Go.Proofs.YbulkcthqFmt
