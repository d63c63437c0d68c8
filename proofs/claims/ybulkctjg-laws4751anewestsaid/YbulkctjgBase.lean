import Derived.Test.YbulkctjgRows
import Derived.Test.YbulkctjgPlain
import Derived.WalkKit
import Derived.WalkSpells
import Derived.Below
import Derived.WalkSmall
import Derived.WalkLawsBesides
import Derived.Deep.LoopGhost
import Derived.Deep.OwnRows
import Derived.Deep.AppendLies
import Derived.Deep.QuietTactic
import Derived.BigQuiet
import Derived.BigRegion
import Derived.Deep.RegionHeld3
import Derived.Deep.CutRange
import Derived.Deep.DeepCutAuto
import Derived.Deep.Light
namespace Go.Proofs.Ybulkctjg
open Go.RowKit
set_option linter.unusedVariables false

theorem hide {p : Prop} (h : p) : Hid p := h

/-! ### of what was there, the blocks of M alone may have turned -/
structure Kp (M : Nat → Prop) (w w' : World) : Prop where
  os : w'.os = w.os
  tape : w'.tape = w.tape
  output : w'.output = w.output
  size : w.heap.size ≤ w'.heap.size
  block : ∀ k, k < w.heap.size → ¬ M k → w'.heap[k]? = w.heap[k]?

namespace Kp
variable {M N : Nat → Prop} {u v w : World}
theorem refl (M : Nat → Prop) (w : World) : Kp M w w := ⟨rfl, rfl, rfl, Nat.le_refl _, fun _ _ _ => rfl⟩
theorem trans (h : Kp M u v) (k : Kp M v w) : Kp M u w :=
  ⟨k.os.trans h.os, k.tape.trans h.tape, k.output.trans h.output, Nat.le_trans h.size k.size, fun i hi hm => (k.block i (Nat.lt_of_lt_of_le hi h.size) hm).trans (h.block i hi hm)⟩
theorem trans' (h : Kp M u v) (k : Kp N v w) (hN : ∀ i, i < u.heap.size → N i → M i) : Kp M u w :=
  ⟨k.os.trans h.os, k.tape.trans h.tape, k.output.trans h.output, Nat.le_trans h.size k.size, fun i hi hm => (k.block i (Nat.lt_of_lt_of_le hi h.size) (fun hn => hm (hN i hi hn))).trans (h.block i hi hm)⟩
theorem mono (h : Kp M u v) (hM : ∀ i, i < u.heap.size → M i → N i) : Kp N u v := ⟨h.os, h.tape, h.output, h.size, fun i hi hn => h.block i hi (fun hm => hn (hM i hi hm))⟩
theorem drew (h : Kp M u v) : Kp M u v.drew := ⟨h.os, h.tape, h.output, h.size, h.block⟩
theorem drewN (h : Kp M u v) (n : Nat) : Kp M u (v.drewN n) := ⟨h.os, h.tape, h.output, h.size, h.block⟩
theorem alloc (h : Kp M u v) (o : Obj) : Kp M u (v.alloc o) :=
  h.trans ⟨rfl, rfl, rfl, by simp, fun k hk _ => Below.heap_alloc v o k hk⟩
theorem setCell (h : Kp M u v) {a : Addr} (ha : a.block < u.heap.size → M a.block) (x : Value) : Kp M u (v.setCell a x) :=
  h.trans' (N := fun k => k = a.block) ⟨rfl, rfl, rfl, by rw [Deep.nblk_setCell]; exact Nat.le_refl _, fun k _ hk => Below.heap_setCell v a x k hk⟩ (fun i hi e => by rw [e] at hi ⊢; exact ha hi)
theorem grown (h : Kp M u v) {row : Option Nat} (hg : v.grownBy w row) (hr : ∀ k, row = some k → k < u.heap.size → M k) : Kp M u w :=
  h.trans' (N := fun k => some k = row) ⟨hg.os, hg.tape, hg.output, hg.size, fun k hk hn => hg.block k hk hn⟩ (fun i hi e => hr i e.symm hi)
theorem set1 (w : World) (b i : Nat) (x : Value) : Kp (fun k => k = b) w (w.setCell ⟨b, i, none⟩ x) := (Kp.refl (fun k => k = b) w).setCell (fun _ => rfl) x
theorem cell (h : Kp M u v) {a : Addr} {x : Value} (hc : u.cell? a = some x) (ha : ¬ M a.block) : v.cell? a = some x :=
  (World.cell?_of_block (h.block a.block (World.block_lt_of_cell? u a hc) ha)).trans hc
theorem rowIs (h : Kp M u v) {b : Nat} {t : TypeId} {n : Nat} {f : Nat → Value} (hr : u.rowIs b t n f) (hb : ¬ M b) : v.rowIs b t n f :=
  hr.of_block (h.block b hr.lt hb)
theorem below (h : Kp M u v) {B : Nat} (hB : B ≤ u.heap.size) (hM : ∀ k, M k → B ≤ k) : Below B u v :=
  ⟨h.os, h.tape, h.output, h.size, fun k hk => h.block k (by omega) (fun hm => by have := hM k hm; omega)⟩
end Kp

/-! ### the part that stays: its cells below S -/
def view (S : Nat) (w : World) : Addr → Option Value := fun a => if a.block < S then w.cell? a else none
theorem view_cell {S : Nat} {w : World} {a : Addr} {v : Value} (h : view S w a = some v) : w.cell? a = some v := by
  unfold view at h
  split at h
  · exact h
  · cases h
theorem view_lt {S : Nat} {w : World} {a : Addr} {v : Value} (h : view S w a = some v) : a.block < S := by
  unfold view at h
  split at h
  · assumption
  · cases h
theorem view_mk {S : Nat} {w : World} {a : Addr} {v : Value} (h : w.cell? a = some v) (hS : a.block < S) : view S w a = some v := by
  unfold view; rw [if_pos hS]; exact h
theorem view_eq {S : Nat} {w w' : World} (h : ∀ k, k < S → w'.heap[k]? = w.heap[k]?) : view S w' = view S w := by
  funext a
  unfold view
  split
  · exact World.cell?_of_block (h _ (by assumption))
  · rfl
theorem Kp.view {M : Nat → Prop} {S : Nat} {w w' : World} (h : Kp M w w') (hS : S ≤ w.heap.size) (hM : ∀ k, M k → S ≤ k) : view S w' = view S w :=
  view_eq fun k hk => h.block k (by omega) (fun hm => by have := hM k hm; omega)

/-- the plain data of a graph -/
structure D where
  nM : Nat
  nV : Nat
  node : Nat → Nat
  ins : Nat → List Nat
  pos : Nat → Nat
  ctr : Nat → Nat
  pas : Nat → Bool
  revs : Nat → List Nat
  runs : Nat → List Nat

/-- where it lies -/
structure Bk where
  L : Nat
  mB : Nat
  vB : Nat
  rB : Nat
  uB : Nat
  pB : Nat
  cV : Nat
  cP : Nat
  rp : Nat → Nat
  iA : Nat → Option Addr
  iC : Nat → Nat
  rA : Nat → Option Addr
  rC : Nat → Nat
  uA : Nat → Option Addr
  uC : Nat → Nat

def strPassed : ByteArray := ⟨#[112, 97, 115, 115, 101, 100]⟩
def strFailed : ByteArray := ⟨#[102, 97, 105, 108, 101, 100]⟩

/-- a slice of values, read -/
def Rd (f : Addr → Option Value) (ao : Option Addr) (xs : List Nat) : Prop :=
  ∀ j, j < xs.length → ∃ bb, ao = some ⟨bb, 0, none⟩ ∧ f ⟨bb, j, none⟩ = some (.int .i32 ((xs.getD j 0 : Nat) : Int))

structure Stat (d : D) (b : Bk) (f : Addr → Option Value) : Prop where
  l1 : f ⟨b.L, 1, none⟩ = some (.slice (some ⟨b.mB, 0, none⟩) (d.nM + 2) (d.nM + 2))
  l3 : 0 < d.nV → f ⟨b.L, 3, none⟩ = some (.slice (some ⟨b.vB, 0, none⟩) d.nV b.cV)
  l4 : f ⟨b.L, 4, none⟩ = some (.slice (some ⟨b.rB, 0, none⟩) (d.nM + 2) (d.nM + 2))
  l5 : f ⟨b.L, 5, none⟩ = some (.slice (some ⟨b.uB, 0, none⟩) (d.nM + 2) (d.nM + 2))
  mat : ∀ n, n < d.nM + 2 → f ⟨b.mB, n, none⟩ = some (.bool (decide (n < d.nM)))
  node : ∀ v, v < d.nV → f ⟨b.vB, v * 5, none⟩ = some (.int .i32 ((d.node v : Nat) : Int))
  run : ∀ v, v < d.nV → d.nM ≤ d.node v → f ⟨b.vB, v * 5 + 3, none⟩ = some (.pointer (some ⟨b.rp v, 0, none⟩)) ∧ f ⟨b.rp v, 1, none⟩ = some (.int .i64 ((d.ctr v : Nat) : Int)) ∧ f ⟨b.rp v, 3, none⟩ = some (.string (if d.pas v then strPassed else strFailed))
  ins : ∀ v, v < d.nV → f ⟨b.vB, v * 5 + 4, none⟩ = some (.slice (b.iA v) (d.ins v).length (b.iC v)) ∧ Rd f (b.iA v) (d.ins v)
  rev : ∀ n, n < d.nM → f ⟨b.rB, n, none⟩ = some (.slice (b.rA n) (d.revs n).length (b.rC n)) ∧ Rd f (b.rA n) (d.revs n)
  rns : ∀ n, d.nM ≤ n → n < d.nM + 2 → f ⟨b.uB, n, none⟩ = some (.slice (b.uA n) (d.runs n).length (b.uC n)) ∧ Rd f (b.uA n) (d.runs n)
  pos : ∀ v, v < d.nV → f ⟨b.pB, v, none⟩ = some (.int .i64 ((d.pos v : Nat) : Int))

/-- the plain data fit -/
structure D.Ok (d : D) : Prop where
  m1 : 1 ≤ d.nM
  m2 : d.nM ≤ 3
  v1 : d.nV ≤ 19
  node : ∀ v, v < d.nV → d.node v < d.nM + 2
  ins : ∀ v, v < d.nV → ∀ u, u ∈ d.ins v → u < d.nV ∧ d.ins u = [] ∧ d.node u < d.nM ∧ d.nM ≤ d.node v
  nd : ∀ v, v < d.nV → ((d.ins v).map d.node).Nodup
  il : ∀ v, v < d.nV → (d.ins v).length ≤ 3
  rev : ∀ n, n < d.nM → ∀ u, u ∈ d.revs n → u < d.nV
  rl : ∀ n, n < d.nM → (d.revs n).length ≤ 3
  rns : ∀ n, d.nM ≤ n → n < d.nM + 2 → ∀ u, u ∈ d.runs n → u < d.nV ∧ d.nM ≤ d.node u
  ul : ∀ n, d.nM ≤ n → n < d.nM + 2 → (d.runs n).length ≤ 10
  pos : ∀ v, v < d.nV → d.pos v ≤ 1000
  ctr : ∀ v, v < d.nV → d.ctr v ≤ 1000

/-- x is newer than y -/
def newer (d : D) (x y : Nat) : Bool := if d.pos x = d.pos y then decide (d.ctr y < d.ctr x) else decide (d.pos y < d.pos x)

end Go.Proofs.Ybulkctjg
