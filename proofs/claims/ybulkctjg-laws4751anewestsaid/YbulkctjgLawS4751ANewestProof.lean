import Derived.Test.YbulkctjgRows
import Derived.WalkKit
import Derived.ProofKit
import Derived.OpenShut
import Derived.ShutString
import Derived.ChangeOld
import Derived.Below
import Derived.Laws.IdiomArrays
import Derived.Deep.Slices
import Derived.Test.YbulkctjgLaw
namespace Go.Proofs.Ybulkctjg.lawS4751ANewest
open Go.ChangeShapes Go.WideShapes Go.ChangeAt Go.RowKit
open Go.ChangeMaps (open_string shut_string)
set_option linter.unusedVariables false

theorem own : ownKnob Yba.prog.godebug = none := by kernel_rfl
theorem laidOut : laidOutB Yba.prog = true := by kernel_rfl
theorem cells5 : Yba.prog.cellsOf 5 = 1 := by kernel_rfl
theorem cells4 : Yba.prog.cellsOf 4 = 1 := by kernel_rfl
theorem cells22 : Yba.prog.cellsOf 22 = 3 := by kernel_rfl
theorem cells101 : Yba.prog.cellsOf 101 = 3 := by kernel_rfl
theorem cells103 : Yba.prog.cellsOf 103 = 8 := by kernel_rfl

theorem wf_u8 {n : Int} (h : (Lit.int .u8 n).wf = true) : ∃ m : Nat, n = (m : Int) ∧ m < 256 := by
  have e1 : IntKind.u8.min = 0 := rfl
  have e2 : IntKind.u8.max = 255 := rfl
  simp [Lit.wf, e1, e2] at h
  exact ⟨n.toNat, by omega, by omega⟩

section
variable {H : Type} {enc : TypeId × Value → H} {W : World} {base : Nat} {sp : Nat → Bool} {held : Bool}
theorem u8_at {fuel : Nat} {c : Value} {x : DataW H × List MemPlace} (h : DataW.trod enc Yba.prog W base sp held fuel 5 [c] = some x) : ∃ m : Nat, c = .int .u8 (m : Int) ∧ m < 256 := by
  obtain ⟨n, e, _, hw⟩ := DataW.trod_int Yba.underlying5 h
  obtain ⟨m, rfl, hm⟩ := wf_u8 hw
  have e : c = .int .u8 (m : Int) := by simpa using e
  exact ⟨m, e, hm⟩
theorem bool_at {fuel : Nat} {c : Value} {x : DataW H × List MemPlace} (h : DataW.trod enc Yba.prog W base sp held fuel 4 [c] = some x) : ∃ m : Bool, c = .bool m := by
  obtain ⟨n, e, _⟩ := DataW.trod_bool Yba.underlying4 h
  exact ⟨n, by simpa using e⟩
theorem u8x3 {fuel : Nat} {c0 c1 c2 : Value} {x : DataW H × List MemPlace} (h : DataW.trod enc Yba.prog W base sp held fuel 22 [c0, c1, c2] = some x) : ∃ m0 m1 m2 : Nat, c0 = .int .u8 (m0 : Int) ∧ c1 = .int .u8 (m1 : Int) ∧ c2 = .int .u8 (m2 : Int) ∧ m0 < 256 ∧ m1 < 256 ∧ m2 < 256 := by
  obtain ⟨y0, y1, y2, n, _, h0, h1, h2⟩ := trod_array3 Yba.underlying22 cells5 h
  obtain ⟨m0, e0, l0⟩ := u8_at h0
  obtain ⟨m1, e1, l1⟩ := u8_at h1
  obtain ⟨m2, e2, l2⟩ := u8_at h2
  exact ⟨m0, m1, m2, e0, e1, e2, l0, l1, l2⟩
theorem bx3 {fuel : Nat} {c0 c1 c2 : Value} {x : DataW H × List MemPlace} (h : DataW.trod enc Yba.prog W base sp held fuel 101 [c0, c1, c2] = some x) : ∃ m0 m1 m2 : Bool, c0 = .bool m0 ∧ c1 = .bool m1 ∧ c2 = .bool m2 := by
  obtain ⟨y0, y1, y2, n, _, h0, h1, h2⟩ := trod_array3 Yba.underlying101 cells4 h
  obtain ⟨m0, e0⟩ := bool_at h0
  obtain ⟨m1, e1⟩ := bool_at h1
  obtain ⟨m2, e2⟩ := bool_at h2
  exact ⟨m0, m1, m2, e0, e1, e2⟩
set_option maxRecDepth 100000 in
theorem run_at {fuel : Nat} {cs : List Value} {x : DataW H × List MemPlace} (hl : cs.length = 8) (h : DataW.trod enc Yba.prog W base sp held fuel 103 cs = some x) :
    ∃ (pi v0 v1 v2 : Nat) (pa b0 b1 b2 : Bool), cs = [.int .u8 (pi : Int), .bool pa, .bool b0, .bool b1, .bool b2, .int .u8 (v0 : Int), .int .u8 (v1 : Int), .int .u8 (v2 : Int)] ∧ pi < 256 ∧ v0 < 256 ∧ v1 < 256 ∧ v2 < 256 := by
  obtain ⟨xs, n, _, _, _, hxl, hx⟩ := DataW.trod_struct Yba.underlying103 h
  match cs, hl with
  | [c0, c1, c2, c3, c4, c5, c6, c7], _ =>
  have hl4 : xs.length = 4 := hxl
  match xs, hl4 with
  | [x0, x1, x2, x3], _ =>
  have f0 : DataW.trod enc Yba.prog W base sp held n 5 (([c0, c1, c2, c3, c4, c5, c6, c7].drop 0).take (Yba.prog.cellsOf 5)) = some x0 := hx 0 _ rfl
  have f1 : DataW.trod enc Yba.prog W base sp held n 4 (([c0, c1, c2, c3, c4, c5, c6, c7].drop 1).take (Yba.prog.cellsOf 4)) = some x1 := hx 1 _ rfl
  have f2 : DataW.trod enc Yba.prog W base sp held n 101 (([c0, c1, c2, c3, c4, c5, c6, c7].drop 2).take (Yba.prog.cellsOf 101)) = some x2 := hx 2 _ rfl
  have f3 : DataW.trod enc Yba.prog W base sp held n 22 (([c0, c1, c2, c3, c4, c5, c6, c7].drop 5).take (Yba.prog.cellsOf 22)) = some x3 := hx 3 _ rfl
  rw [cells5] at f0
  rw [cells4] at f1
  rw [cells101] at f2
  rw [cells22] at f3
  obtain ⟨pi, rfl, hpi⟩ := u8_at (show DataW.trod enc Yba.prog W base sp held n 5 [c0] = some x0 from f0)
  obtain ⟨pa, rfl⟩ := bool_at (show DataW.trod enc Yba.prog W base sp held n 4 [c1] = some x1 from f1)
  obtain ⟨b0, b1, b2, rfl, rfl, rfl⟩ := bx3 (show DataW.trod enc Yba.prog W base sp held n 101 [c2, c3, c4] = some x2 from f2)
  obtain ⟨v0, v1, v2, rfl, rfl, rfl, l0, l1, l2⟩ := u8x3 (show DataW.trod enc Yba.prog W base sp held n 22 [c5, c6, c7] = some x3 from f3)
  exact ⟨pi, v0, v1, v2, pa, b0, b1, b2, rfl, hpi, l0, l1, l2⟩

theorem addr_add (blk off n : Nat) : (⟨blk, off, none⟩ : Addr).add n = ⟨blk, off + n, none⟩ := by
  unfold Addr.add
  by_cases e : n = 0
  · subst e; rfl
  · rw [if_neg e]
theorem add_block (a : Addr) (i : Nat) : (a.add i).block = a.block := by unfold Addr.add; split <;> rfl
set_option maxRecDepth 100000 in
theorem runs_at {fuel : Nat} {a : Option Addr} {len cap : Nat} {x : DataW H × List MemPlace} (h : DataW.trod enc Yba.prog W base sp held fuel 23 [.slice a len cap] = some x) : RunsAt W a len := by
  intro j hj
  rcases Go.Deep.open_slice Yba.underlying23 h with ⟨hcs, _⟩ | ⟨y, l, c, m, n, D, Pl, hcs, _, hl, _, hm, _, hx⟩
  · simp at hcs
    omega
  · simp at hcs
    obtain ⟨rfl, rfl, rfl⟩ := hcs
    obtain ⟨cs, h1, h2⟩ := hx j (by rw [hm]; split <;> omega)
    rw [cells103] at h1
    obtain ⟨_, hlen, hcell⟩ := World.cells?_some h1
    obtain ⟨pi, v0, v1, v2, pa, b0, b1, b2, rfl, hpi, l0, l1, l2⟩ := run_at hlen h2
    have c := fun i hi => hcell i hi
    obtain ⟨blk, off, spot⟩ := y
    have hsp : spot = none := by
      obtain ⟨cs0, g1, g2⟩ := hx 0 (by rw [hm]; split <;> omega)
      rw [cells103] at g1
      obtain ⟨_, glen, gcell⟩ := World.cells?_some g1
      have g0 := gcell 0 (by omega)
      rw [List.getElem?_eq_getElem (by omega)] at g0
      simpa [Addr.add] using World.cell?_spot g0
    subst hsp
    refine ⟨blk, off, ⟨pi, pa, fun i => if i = 0 then b0 else if i = 1 then b1 else b2, fun i => if i = 0 then v0 else if i = 1 then v1 else v2⟩, rfl, ?_, hpi, ?_, ?_⟩
    · have := hcell 0 (by omega)
      rw [List.getElem?_eq_getElem (by omega)] at this
      have hb := World.block_lt_of_cell? _ _ this
      rw [add_block, add_block] at hb
      exact hb
    · intro i
      show (if i = 0 then v0 else if i = 1 then v1 else v2) < 256
      split
      · exact l0
      · split
        · exact l1
        · exact l2
    · have cc : ∀ i v, i < 8 → [Value.int .u8 (pi : Int), .bool pa, .bool b0, .bool b1, .bool b2, .int .u8 (v0 : Int), .int .u8 (v1 : Int), .int .u8 (v2 : Int)][i]? = some v → W.cell? ⟨blk, off + j * 8 + i, none⟩ = some v := by
        intro i v hi hv
        have h9 := hcell i hi
        rw [hv] at h9
        rw [← h9]
        congr 1
        rw [addr_add, addr_add]
      exact ⟨cc 0 _ (by omega) rfl, cc 1 _ (by omega) rfl, cc 2 _ (by omega) rfl, cc 3 _ (by omega) rfl, cc 4 _ (by omega) rfl, cc 5 _ (by omega) rfl, cc 6 _ (by omega) rfl, cc 7 _ (by omega) rfl⟩

set_option maxRecDepth 100000 in
theorem ents_at {fuel : Nat} {a : Option Addr} {len cap : Nat} {x : DataW H × List MemPlace} (h : DataW.trod enc Yba.prog W base sp held fuel 24 [.slice a len cap] = some x) : ∃ es : Nat → Nat, ∀ j, j < len → ∃ eb eo, a = some ⟨eb, eo, none⟩ ∧ eb < W.heap.size ∧ W.cell? ⟨eb, eo + j, none⟩ = some (.int .u8 ((es j : Nat) : Int)) ∧ es j < 256 := by
  rcases open_ints Yba.underlying24 Yba.underlying5 cells5 h with ⟨hcs, _⟩ | ⟨y, l, c, zs, hcs, _, hl, _, hz, _, hcell, hw⟩
  · simp at hcs
    exact ⟨fun _ => 0, fun j hj => by omega⟩
  · simp at hcs
    obtain ⟨rfl, rfl, rfl⟩ := hcs
    refine ⟨fun j => (zs.getD j 0).toNat, fun j hj => ?_⟩
    have hjz : j < zs.length := by rw [hz]; split <;> omega
    have h9 := hcell j hjz
    have h0 := hcell 0 (by omega)
    obtain ⟨blk, off, spot⟩ := y
    have hsp : spot = none := by simpa [Addr.add] using World.cell?_spot h0
    subst hsp
    obtain ⟨m, hm, hm2⟩ := wf_u8 (hw (zs.getD j 0) (by rw [List.getD_eq_getElem?_getD, List.getElem?_eq_getElem hjz]; exact List.getElem_mem _))
    rw [addr_add, hm] at h9
    have et : (zs.getD j 0).toNat = m := by rw [hm]; rfl
    refine ⟨blk, off, rfl, World.block_lt_of_cell? _ _ h9, ?_, ?_⟩
    · show W.cell? _ = some (.int .u8 (((zs.getD j 0).toNat : Nat) : Int))
      rw [et]; exact h9
    · show (zs.getD j 0).toNat < 256
      rw [et]; exact hm2
end

/-! ### the row's step -/
theorem list3 {l : List Value} (h : l.length = 3) : ∃ a b c, l = [a, b, c] := by
  match l, h with
  | [a, b, c], _ => exact ⟨a, b, c, rfl⟩
set_option maxRecDepth 100000 in
set_option maxHeartbeats 4000000 in
theorem lifted (os : Os) (started : os.Started) (H : Type) (enc : TypeId × Value → H) :
    ReturnsInHanded {} Yba.checked os 3 .any (Rows.lawS4751ANewestSpec.pre6 enc Yba.prog Yba.f3 Rows.lawS4751ANewestRow.domain false) (Rows.lawS4751ANewestSpec.post enc Yba.prog Yba.f3 false true false false) := by
  refine returnsInHanded_of_change (C := Yba.checked) own started (by kernel_rfl) Yba.func3
    (ChangeSpec.witness6 (enc := enc) (C := Yba.checked) false ⟨#[], #[.int .u8 0, .agg #[.int .u8 0, .int .u8 0, .int .u8 0], .slice none 0 0, .slice none 0 0], []⟩ 8 (by kernel_rfl) (by kernel_rfl) (by kernel_rfl) (by kernel_rfl)) ?_
  intro W base args ds gs before hval0 hW hcnd _
  have hval : ∀ (j : Nat) t v, Yba.f3.params[j]? = some t → args[j]? = some v → Value.okWide Yba.prog W .any base t v := hval0
  have hW' := hW
  obtain ⟨p, q, hA0, hV, rfl, hfz, hnd⟩ := hW
  have hA : DataW.TrodAll enc Yba.prog W 0 (fun _ => true) true Yba.f3.params.toList args.toList ds p := hA0
  rw [Yba.params3] at hA hval
  obtain ⟨v0, vs0, d0, ds0, p0, q0, hargs, rfl, rfl, h0, r0⟩ := trodAll_cons hA
  obtain ⟨v1, vs1, d1, ds1, p1, q1, rfl, rfl, rfl, h1, r1⟩ := trodAll_cons r0
  obtain ⟨v2, vs2, d2, ds2, p2, q2, rfl, rfl, rfl, h2, r2⟩ := trodAll_cons r1
  obtain ⟨v3, vs3, d3, ds3, p3, q3, rfl, rfl, rfl, h3, r3⟩ := trodAll_cons r2
  obtain ⟨rfl, rfl, rfl⟩ := trodAll_nil r3
  obtain rfl : args = #[v0, v1, v2, v3] := by cases args; simp_all
  obtain ⟨rfl, rfl⟩ := trodVars_none hV
  have k0 := h0
  have k1 := h1
  have k2 := h2
  have k3 := h3
  have lt0 : ∀ x ∈ p0, x.block < W.heap.size := by obtain ⟨m, hm⟩ := k0; exact DataW.trod_lt m _ _ _ hm
  have lt1 : ∀ x ∈ p1, x.block < W.heap.size := by obtain ⟨m, hm⟩ := k1; exact DataW.trod_lt m _ _ _ hm
  have lt2 : ∀ x ∈ p2, x.block < W.heap.size := by obtain ⟨m, hm⟩ := k2; exact DataW.trod_lt m _ _ _ hm
  have lt3 : ∀ x ∈ p3, x.block < W.heap.size := by obtain ⟨m, hm⟩ := k3; exact DataW.trod_lt m _ _ _ hm
  obtain ⟨a0, e0, _, _, w0⟩ := open_int Yba.underlying5 (hval 0 5 v0 rfl rfl) h0
  subst e0
  obtain ⟨m0, rfl, hm0⟩ := wf_u8 w0
  obtain ⟨cs, e1, hcs⟩ : ∃ cs : Array Value, v1 = .agg cs ∧ cs.size = 3 := by
    have h9 := hval 1 22 v1 rfl rfl
    unfold Value.okWide at h9
    rw [Yba.underlying22] at h9
    obtain ⟨cs, e1, e2, _⟩ := h9
    exact ⟨cs, e1, e2.trans cells22⟩
  subst e1
  obtain ⟨l1⟩ := cs
  have hl3 : l1.length = 3 := hcs
  obtain ⟨c0, c1, c2, e1⟩ := list3 hl3
  subst e1
  obtain ⟨r0', r1', r2', rfl, rfl, rfl, hr0, hr1, hr2⟩ : ∃ m0 m1 m2 : Nat, c0 = .int .u8 (m0 : Int) ∧ c1 = .int .u8 (m1 : Int) ∧ c2 = .int .u8 (m2 : Int) ∧ m0 < 256 ∧ m1 < 256 ∧ m2 < 256 := by
    obtain ⟨fuel, hf⟩ := h1
    exact u8x3 hf
  obtain ⟨ra, rn, rc, e2⟩ := okWide_slice Yba.underlying23 (hval 2 23 v2 rfl rfl)
  subst e2
  have hru : RunsAt W ra rn := by
    obtain ⟨fuel, hf⟩ := h2
    exact runs_at hf
  obtain ⟨ea, en, ec, e3⟩ := okWide_slice Yba.underlying24 (hval 3 24 v3 rfl rfl)
  subst e3
  obtain ⟨es, hes⟩ : ∃ es, EntAt W ea en es := by
    obtain ⟨fuel, hf⟩ := h3
    exact ents_at hf
  clear hA0 hval0
  refine (law_walk m0 r0' r1' r2' ra rn rc ea en ec es W hm0 hr0 hr1 hr2 (fun _ => hru) hes).mono fun e W' ⟨he, bel⟩ => ?_
  subst he
  exact ⟨_, rfl, _, _, _, [], _, [], hW', trodAll_mk1 (shut_bool Yba.underlying4 _), (trodAll_cons_mk (Below.trod laidOut (by kernel_rfl) (of_decide_eq_true (by kernel_rfl)) k0 bel lt0) (trodAll_cons_mk (Below.trod laidOut (by kernel_rfl) (of_decide_eq_true (by kernel_rfl)) k1 bel lt1) (trodAll_cons_mk (Below.trod laidOut (by kernel_rfl) (of_decide_eq_true (by kernel_rfl)) k2 bel lt2) (trodAll_cons_mk (Below.trod laidOut (by kernel_rfl) (of_decide_eq_true (by kernel_rfl)) k3 bel lt3) trodAll_mk0)))), rfl, bel.frame _, fun h => by cases h⟩

theorem over : Rows.lawS4751ANewestRow.holds Yba.pinned (OpenSpec.ofChange Rows.lawS4751ANewestSpec) :=
  OpenClaim.holds_of_wide 3 Yba.f3 rfl rfl rfl rfl rfl rfl rfl ⟨rfl, rfl, rfl, rfl, rfl⟩ rfl rfl rfl rfl rfl (by kernel_rfl) Yba.func3 (by kernel_rfl)
    (of_decide_eq_true (by kernel_rfl)) (by unfold Func.isWrapper; first | (rw [if_pos (by decide +kernel)]; kernel_rfl) | (rw [if_neg (by decide +kernel)]; exact ⟨rfl, rfl⟩))
    (fun os started H enc _ => lifted os started H enc)

/-- THE STATEMENT -/
theorem proved : Rows.LawS4751ANewestSaid := over
end Go.Proofs.Ybulkctjg.lawS4751ANewest
