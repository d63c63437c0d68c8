/-
  No cell of these rows narrows 'for every input' (looked for: loops, veiled, ifaces, maps, wideKeys, modest, calm, conditions, laid).
  DERIVED. THE GIVEN ROWS OF THIS SEAT. 1 by the template 'for every input the law returns true; each argument reads behind the call as it read before'; 0 by the template 'total and deterministic' (their statements: YbulkcthqTotals.lean).
  GIVEN WITH THE SEED: the statements are not yours to turn. If you find one false, say at which input.
  Laid BY PROGRAM, IN A SANDBOX (cutbox-rows.mjs): the forced cells as the released guide's own fill.sh prints them over the translation 530e1beafd42fa2a… (all of the seat's roots in one cut). By AI agents, Wed Nov 11 2026. No macro, syntax, notation, axiom, sorry.
-/
import Derived.Test.YbulkcthqChecked
import GoSem.Claim
import GoSem.ClaimJoined
import GoSem.ClaimMapViews
import Derived.JoinedTies
import Derived.KernelRfl
namespace Go.Proofs.Ybulkcthq
/- THE CELL 'sum', in the pinned program and in every row, IS THE sha256 OF THE DUMP (.gsa) THAT YbulkcthqProg.lean LOADS. Nothing in Lean hashes anything: it is a label: what it is worth is what the hold of that sum in a sandbox is worth. -/
noncomputable def Yba.pinned : Pinned := { name := "ybulkcthq", sum := "530e1beafd42fa2ad728cf1b27aed9a705c9af7b98d6298d463c59b7dde2309d", checked := Yba.checked }
namespace Rows
def none {H : Type} : Left H := { results := [], args := [] }

/-- 'msi.LawS4748BOf': WHATEVER THE INPUT: true; the input reads as it did. -/
def lawS4748BOfSpec : ChangeSpec := { name := "lawS4748BOf", fn := fun _ => fun
  | [d1, d2, d3, d4] => { results := [.lit (.bool true)], args := [d1, d2, d3, d4] }
  | _ => none }
def lawS4748BOfRow : OpenClaim := { program := "ybulkcthq", sum := "530e1beafd42fa2ad728cf1b27aed9a705c9af7b98d6298d463c59b7dde2309d", func := "example.com/coffhand/coffhand/msi.LawS4748BOf", spec := "lawS4748BOf", apart := false }
def LawS4748BOfSaid : Prop := lawS4748BOfRow.holds Yba.pinned (OpenSpec.ofChange lawS4748BOfSpec)

/-- ITS FALSE NEIGHBOUR: 'it returns false'. Refute it at one input. -/
def lawS4748BOfWrong : ChangeSpec := { name := "lawS4748BOf", fn := fun _ => fun
  | [d1, d2, d3, d4] => { results := [.lit (.bool false)], args := [d1, d2, d3, d4] }
  | _ => none }
def LawS4748BOfWrongFalsely : Prop := lawS4748BOfRow.holds Yba.pinned (OpenSpec.ofChange lawS4748BOfWrong)

end Rows
end Go.Proofs.Ybulkcthq
