/-
  No cell of these rows narrows 'for every input' (looked for: loops, veiled, ifaces, maps, wideKeys, modest, calm, conditions, laid).
  DERIVED. THE GIVEN ROWS OF THIS SEAT. 2 by the template 'for every input the law returns true; each argument reads behind the call as it read before'; 0 by the template 'total and deterministic' (their statements: YbulkctisTotals.lean).
  GIVEN WITH THE SEED: the statements are not yours to turn. If you find one false, say at which input.
  Laid BY PROGRAM, IN A SANDBOX (cutbox-rows.mjs): the forced cells as the released guide's own fill.sh prints them over the translation 3b3c0daf1e78cf08… (all of the seat's roots in one cut). By AI agents, Wed Nov 11 2026. No macro, syntax, notation, axiom, sorry.
-/
import Derived.Test.YbulkctisChecked
import GoSem.Claim
import GoSem.ClaimJoined
import GoSem.ClaimMapViews
import Derived.JoinedTies
import Derived.KernelRfl
namespace Go.Proofs.Ybulkctis
/- THE CELL 'sum', in the pinned program and in every row, IS THE sha256 OF THE DUMP (.gsa) THAT YbulkctisProg.lean LOADS. Nothing in Lean hashes anything: it is a label: what it is worth is what the hold of that sum in a sandbox is worth. -/
noncomputable def Yba.pinned : Pinned := { name := "ybulkctis", sum := "3b3c0daf1e78cf087716bb1b89383abb87c9d26ff7e4ef988139446be2c3a502", checked := Yba.checked }
namespace Rows
def none {H : Type} : Left H := { results := [], args := [] }

/-- 'chunk.LawS4750BModel': WHATEVER THE INPUT: true; the input reads as it did. -/
def lawS4750BModelSpec : ChangeSpec := { name := "lawS4750BModel", fn := fun _ => fun
  | [d1, d2, d3] => { results := [.lit (.bool true)], args := [d1, d2, d3] }
  | _ => none }
def lawS4750BModelRow : OpenClaim := { program := "ybulkctis", sum := "3b3c0daf1e78cf087716bb1b89383abb87c9d26ff7e4ef988139446be2c3a502", func := "example.com/presage/presage/internal/chunk.LawS4750BModel", spec := "lawS4750BModel", apart := false }
def LawS4750BModelSaid : Prop := lawS4750BModelRow.holds Yba.pinned (OpenSpec.ofChange lawS4750BModelSpec)

/-- ITS FALSE NEIGHBOUR: 'it returns false'. Refute it at one input. -/
def lawS4750BModelWrong : ChangeSpec := { name := "lawS4750BModel", fn := fun _ => fun
  | [d1, d2, d3] => { results := [.lit (.bool false)], args := [d1, d2, d3] }
  | _ => none }
def LawS4750BModelWrongFalsely : Prop := lawS4750BModelRow.holds Yba.pinned (OpenSpec.ofChange lawS4750BModelWrong)

/-- 'chunk.LawS4750BSelf': WHATEVER THE INPUT: true; the input reads as it did. -/
def lawS4750BSelfSpec : ChangeSpec := { name := "lawS4750BSelf", fn := fun _ => fun
  | [d] => { results := [.lit (.bool true)], args := [d] }
  | _ => none }
def lawS4750BSelfRow : OpenClaim := { program := "ybulkctis", sum := "3b3c0daf1e78cf087716bb1b89383abb87c9d26ff7e4ef988139446be2c3a502", func := "example.com/presage/presage/internal/chunk.LawS4750BSelf", spec := "lawS4750BSelf", apart := false }
def LawS4750BSelfSaid : Prop := lawS4750BSelfRow.holds Yba.pinned (OpenSpec.ofChange lawS4750BSelfSpec)

/-- ITS FALSE NEIGHBOUR: 'it returns false'. Refute it at one input. -/
def lawS4750BSelfWrong : ChangeSpec := { name := "lawS4750BSelf", fn := fun _ => fun
  | [d] => { results := [.lit (.bool false)], args := [d] }
  | _ => none }
def LawS4750BSelfWrongFalsely : Prop := lawS4750BSelfRow.holds Yba.pinned (OpenSpec.ofChange lawS4750BSelfWrong)

end Rows
end Go.Proofs.Ybulkctis
