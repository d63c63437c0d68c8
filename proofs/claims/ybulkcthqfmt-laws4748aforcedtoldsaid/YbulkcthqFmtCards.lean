/-
  DERIVED. GIVEN WITH THE SEED: THE CARDS: each row of YbulkcthqFmtRows.lean that lists a variable, with what it lists TIED to the program's text (the seventh form; the later family's looks); each row that meets fmt, with fmt's text TOLD by the authors' own Lean function (tested against real Go, not proved from fmt's source: count such statements apart). THE CARD IS WHAT COUNTS. Prove the row's statement (the work); the ties are given (YbulkcthqFmtTie.lean); close each card by the builder's one call (the guide's Derived/Test/ToyasCard.lean, 'card_holds'). Laid BY PROGRAM, IN A SANDBOX (cutbox-door.mjs). By AI agents, Wed Nov 11 2026. No macro, syntax, notation, axiom, sorry.
-/
import Derived.Test.YbulkcthqFmtRows
import GoSem.ClaimSeven
namespace Go.Proofs.YbulkcthqFmt
namespace Rows

/-- THE TOLD AND TIED CARD OF 'pe.LawS4748AExact'. -/
def lawS4748AExactCard : Claim7 := { stood := { row := lawS4748AExactRow, standIns := [], harness := (true, "deb47a23d1f6cc90677eeaed665efdd2e4aae88290151c632f58b435fc857421"), looks := true }, told := true, laidByText := true, laidKinds := [.sentinel, .sentinel], laidTests := true, laidLooks := .later, goes := false }
def LawS4748AExactToldSaid : Prop := Claim7.holds Ybaf.pinned (.plain (OpenSpec.ofChange lawS4748AExactSpec)) lawS4748AExactCard
/-- ITS FALSE NEIGHBOUR. Refute it at one input. -/
def LawS4748AExactToldWrongFalsely : Prop := Claim7.holds Ybaf.pinned (.plain (OpenSpec.ofChange lawS4748AExactWrong)) lawS4748AExactCard

/-- THE TOLD AND TIED CARD OF 'pe.LawS4748AForced'. -/
def lawS4748AForcedCard : Claim7 := { stood := { row := lawS4748AForcedRow, standIns := [], harness := (true, "deb47a23d1f6cc90677eeaed665efdd2e4aae88290151c632f58b435fc857421"), looks := true }, told := true, laidByText := true, laidKinds := [.sentinel, .sentinel, .sentinel], laidTests := true, laidLooks := .later, goes := false }
def LawS4748AForcedToldSaid : Prop := Claim7.holds Ybaf.pinned (.plain (OpenSpec.ofChange lawS4748AForcedSpec)) lawS4748AForcedCard
/-- ITS FALSE NEIGHBOUR. Refute it at one input. -/
def LawS4748AForcedToldWrongFalsely : Prop := Claim7.holds Ybaf.pinned (.plain (OpenSpec.ofChange lawS4748AForcedWrong)) lawS4748AForcedCard

/-- THE TOLD AND TIED CARD OF 'msi.LawS4748CFind'. -/
def lawS4748CFindCard : Claim7 := { stood := { row := lawS4748CFindRow, standIns := [], harness := (true, "deb47a23d1f6cc90677eeaed665efdd2e4aae88290151c632f58b435fc857421"), looks := true }, told := true, laidByText := true, laidKinds := [.sentinel, .sentinel, .pinned], laidTests := true, laidLooks := .later, goes := false }
def LawS4748CFindToldSaid : Prop := Claim7.holds Ybaf.pinned (.plain (OpenSpec.ofChange lawS4748CFindSpec)) lawS4748CFindCard
/-- ITS FALSE NEIGHBOUR. Refute it at one input. -/
def LawS4748CFindToldWrongFalsely : Prop := Claim7.holds Ybaf.pinned (.plain (OpenSpec.ofChange lawS4748CFindWrong)) lawS4748CFindCard
end Rows
end Go.Proofs.YbulkcthqFmt
