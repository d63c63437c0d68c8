import Derived.Test.YbulkcthqFmtExact
import Derived.ProofKit
import Derived.Stop.JoinedAt
import Derived.Stop.Texts
import Derived.Stop.JoinedTold
import Derived.Stop.LaidErr
import Derived.Stop.LaidTwo
import Derived.Carry
import Derived.Deep.SlicePairs
import Derived.SevenTiedAt
import Derived.OpenShut
namespace Go.Proofs.YbulkcthqFmt
open Go.ChangeShapes Go.WideShapes Go.ChangeAt Go.RowKit Go.Kit
open Go.Extern.Stop Go.Stop Go.Extern
set_option linter.unusedVariables false

theorem Ybaf.own : ownKnob Ybaf.prog.godebug = none := by kernel_rfl
theorem Ybaf.laidOut : laidOutB Ybaf.pinned.checked.prog = true := by kernel_rfl
theorem Ybaf.stops : Ybaf.pinned.checked.prog.stops = ["fmt.errorf"] := by kernel_rfl
theorem Ybaf.stopKnobs : Ybaf.pinned.checked.prog.stopKnobs = [] := by kernel_rfl
theorem Ybaf.quiet (os : Os) : Stop.quiet Ybaf.pinned.checked.prog os := by
  intro k hk
  rw [Ybaf.stopKnobs] at hk
  cases hk
theorem Ybaf.cells104 : Ybaf.prog.cellsOf 104 = 1 := by kernel_rfl
theorem Ybaf.cells9 : Ybaf.prog.cellsOf 9 = 1 := by kernel_rfl
theorem Ybaf.cells27 : Ybaf.prog.cellsOf 27 = 2 := by kernel_rfl
theorem Ybaf.cells25 : Ybaf.prog.cellsOf 25 = 1 := by kernel_rfl
theorem Ybaf.row102 (u : TypeId) (h : Ybaf.prog.typeName? 3 u = some Ybaf.nm) : u = 102 :=
  typeName_ptr_named (nm := "errors.errorString") (by kernel_rfl) (by kernel_rfl) (by decide) u (h.trans (by kernel_rfl))

/-- where the program's own blocks end -/
def lowOf (P : Program) : Nat := (World.holding P default ⟨#[], #[], []⟩).heap.size
def layAt (w : World) (g b tp : Nat) : World :=
  { w with heap := w.heap.modify g fun
      | .cells _ t frozen => .cells #[.iface tp (.pointer (some ⟨b, 0, none⟩))] t frozen
      | o => o }
def sU : ByteArray := ⟨#[116, 104, 101, 32, 105, 109, 97, 103, 101, 32, 105, 115, 32, 110, 111, 116, 32, 115, 105, 103, 110, 101, 100]⟩
def sMal : ByteArray := ⟨#[109, 97, 108, 102, 111, 114, 109, 101, 100, 32, 105, 109, 97, 103, 101]⟩
def sTru : ByteArray := ⟨#[116, 114, 117, 110, 99, 97, 116, 101, 100, 32, 105, 109, 97, 103, 101]⟩
/-- a world in which the three sentinels lie -/
def laidWorld (P : Program) (os : Os) : World :=
  layAt (layAt (layAt (World.holding P os ⟨#[.cells #[.string sU] 104, .cells #[.string sMal] 104, .cells #[.string sTru] 104], #[], []⟩) 3 (lowOf P) 102) 4 (lowOf P + 1) 102) 0 (lowOf P + 2) 102

theorem wf_u32 {n : Int} (h : (Lit.int .u32 n).wf = true) : 0 ≤ n ∧ n ≤ 4294967295 := by
  have e1 : IntKind.u32.min = 0 := rfl
  have e2 : IntKind.u32.max = 4294967295 := rfl
  simp [Lit.wf, e1, e2] at h
  omega

theorem dirs_of {H : Type} {enc : TypeId × Value → H} {W : World} {fuel : Nat} {v : Value} {a : Option Addr} {len cap : Nat} {x : DataW H × List MemPlace}
    (h : DataW.trod enc Ybaf.prog W 0 (fun _ => true) true fuel 22 [.slice a len cap] = some x) : ∃ A S, Dirs W a len cap A S ∧ Fits len A S := by
  rcases Go.Deep.open_slice_pairs Ybaf.underlying22 Ybaf.underlying27 Ybaf.cells27 rfl rfl (by kernel_rfl) (by kernel_rfl) h with ⟨hcs, _⟩ | ⟨y, l, c, m, n, V0, V1, D0, D1, P0, P1, hcs, _, hl, hm, hmm, _, hx⟩
  · simp at hcs
    obtain ⟨rfl, rfl, rfl⟩ := hcs
    exact ⟨fun _ => 0, fun _ => 0, .inl ⟨rfl, rfl, rfl⟩, fun i hi => by omega⟩
  · simp at hcs
    obtain ⟨rfl, rfl, rfl⟩ := hcs
    have hmm' : m = cap := by simpa using hmm
    subst hmm'
    have each : ∀ i, i < len → ∃ q : Int × Int, W.cell? (y.add (i * 2)) = some (.int .u32 q.1) ∧ W.cell? (y.add (i * 2 + 1)) = some (.int .u32 q.2) ∧ (Lit.int .u32 q.1).wf = true ∧ (Lit.int .u32 q.2).wf = true := by
      intro i hi
      obtain ⟨c0, c1, t0, t1⟩ := hx i (by omega)
      obtain ⟨z0, e0, _, w0⟩ := DataW.trod_int Ybaf.underlying25 t0
      obtain ⟨z1, e1, _, w1⟩ := DataW.trod_int Ybaf.underlying25 t1
      simp at e0 e1
      exact ⟨(z0, z1), by rw [c0, e0], by rw [c1, e1], w0, w1⟩
    obtain ⟨q, hq⟩ := Go.Deep.choose_lt each
    refine ⟨fun i => (q i).1, fun i => (q i).2, .inr ⟨y, rfl, hl, hm, fun j hj => ?_⟩, fun i hi => ?_⟩
    · by_cases hp : j % 2 = 0
      · have := (hq (j / 2) (by omega)).1
        rw [show j / 2 * 2 = j by omega] at this
        rw [this]
        unfold dcell
        rw [if_pos hp]
      · have := (hq (j / 2) (by omega)).2.1
        rw [show j / 2 * 2 + 1 = j by omega] at this
        rw [this]
        unfold dcell
        rw [if_neg hp]
    · obtain ⟨_, _, w0, w1⟩ := hq i hi
      obtain ⟨b0, b1⟩ := wf_u32 w0
      obtain ⟨b2, b3⟩ := wf_u32 w1
      exact ⟨b0, b1, b2, b3⟩

end Go.Proofs.YbulkcthqFmt
