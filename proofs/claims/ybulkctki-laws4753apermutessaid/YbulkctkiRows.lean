/-
  No cell of these rows narrows 'for every input' (looked for: loops, veiled, ifaces, maps, wideKeys, modest, calm, conditions, laid).
  DERIVED. THE GIVEN ROWS OF THIS SEAT. 2 by the template 'for every input the law returns true; each argument reads behind the call as it read before'; 0 by the template 'total and deterministic' (their statements: YbulkctkiTotals.lean).
  GIVEN WITH THE SEED: the statements are not yours to turn. If you find one false, say at which input.
  Laid BY PROGRAM, IN A SANDBOX (cutbox-rows.mjs): the forced cells as the released guide's own fill.sh prints them over the translation 473225830d62b120… (all of the seat's roots in one cut). By AI agents, Wed Nov 11 2026. No macro, syntax, notation, axiom, sorry.
-/
import Derived.Test.YbulkctkiChecked
import GoSem.Claim
import GoSem.ClaimJoined
import GoSem.ClaimMapViews
import Derived.JoinedTies
import Derived.KernelRfl
namespace Go.Proofs.Ybulkctki
/- THE CELL 'sum', in the pinned program and in every row, IS THE sha256 OF THE DUMP (.gsa) THAT YbulkctkiProg.lean LOADS. Nothing in Lean hashes anything: it is a label: what it is worth is what the hold of that sum in a sandbox is worth. -/
noncomputable def Yba.pinned : Pinned := { name := "ybulkctki", sum := "473225830d62b12086de80b97a4196ef866b78ea55262dcb74f6684207b81b4f", checked := Yba.checked }
namespace Rows
def none {H : Type} : Left H := { results := [], args := [] }

/-- 'sampling.LawS4753APermutes': WHATEVER THE INPUT: true; the input reads as it did. -/
def lawS4753APermutesSpec : ChangeSpec := { name := "lawS4753APermutes", fn := fun _ => fun
  | [d1, d2] => { results := [.lit (.bool true)], args := [d1, d2] }
  | _ => none }
def lawS4753APermutesRow : OpenClaim := { program := "ybulkctki", sum := "473225830d62b12086de80b97a4196ef866b78ea55262dcb74f6684207b81b4f", func := "example.com/texel/texel/pkg/sampling.LawS4753APermutes", spec := "lawS4753APermutes", apart := false }
def LawS4753APermutesSaid : Prop := lawS4753APermutesRow.holds Yba.pinned (OpenSpec.ofChange lawS4753APermutesSpec)

/-- ITS FALSE NEIGHBOUR: 'it returns false'. Refute it at one input. -/
def lawS4753APermutesWrong : ChangeSpec := { name := "lawS4753APermutes", fn := fun _ => fun
  | [d1, d2] => { results := [.lit (.bool false)], args := [d1, d2] }
  | _ => none }
def LawS4753APermutesWrongFalsely : Prop := lawS4753APermutesRow.holds Yba.pinned (OpenSpec.ofChange lawS4753APermutesWrong)

/-- 'sampling.LawS4753ASmallKey': WHATEVER THE INPUT: true; the input reads as it did. -/
def lawS4753ASmallKeySpec : ChangeSpec := { name := "lawS4753ASmallKey", fn := fun _ => fun
  | [d1, d2, d3] => { results := [.lit (.bool true)], args := [d1, d2, d3] }
  | _ => none }
def lawS4753ASmallKeyRow : OpenClaim := { program := "ybulkctki", sum := "473225830d62b12086de80b97a4196ef866b78ea55262dcb74f6684207b81b4f", func := "example.com/texel/texel/pkg/sampling.LawS4753ASmallKey", spec := "lawS4753ASmallKey", apart := false }
def LawS4753ASmallKeySaid : Prop := lawS4753ASmallKeyRow.holds Yba.pinned (OpenSpec.ofChange lawS4753ASmallKeySpec)

/-- ITS FALSE NEIGHBOUR: 'it returns false'. Refute it at one input. -/
def lawS4753ASmallKeyWrong : ChangeSpec := { name := "lawS4753ASmallKey", fn := fun _ => fun
  | [d1, d2, d3] => { results := [.lit (.bool false)], args := [d1, d2, d3] }
  | _ => none }
def LawS4753ASmallKeyWrongFalsely : Prop := lawS4753ASmallKeyRow.holds Yba.pinned (OpenSpec.ofChange lawS4753ASmallKeyWrong)

end Rows
end Go.Proofs.Ybulkctki
