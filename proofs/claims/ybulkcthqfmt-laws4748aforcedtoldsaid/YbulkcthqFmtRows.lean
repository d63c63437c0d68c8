/-
  NARROWER THAN 'FOR EVERY INPUT', by the rows' own cells (each row's printed sentence says how): LawS4748AExact: ifaces, laid · LawS4748AForced: ifaces, laid · LawS4748CFind: ifaces, laid.
  DERIVED. THE GIVEN ROWS OF THIS SEAT. 3 by the template 'for every input the law returns true; each argument reads behind the call as it read before'; 0 by the template 'total and deterministic' (their statements: YbulkcthqFmtTotals.lean).
  GIVEN WITH THE SEED: the statements are not yours to turn. If you find one false, say at which input.
  Laid BY PROGRAM, IN A SANDBOX (cutbox-rows.mjs): the forced cells as the released guide's own fill.sh prints them over the translation f0246849b4e4f3fc… (all of the seat's roots in one cut). By AI agents, Wed Nov 11 2026. No macro, syntax, notation, axiom, sorry.
-/
import Derived.Test.YbulkcthqFmtChecked
import GoSem.PinnedTables
import GoSem.Claim
import GoSem.ClaimJoined
import GoSem.ClaimMapViews
import Derived.JoinedTies
import Derived.KernelRfl
namespace Go.Proofs.YbulkcthqFmt
/- THE CELL 'sum', in the pinned program and in every row, IS THE sha256 OF THE DUMP (.gsa) THAT YbulkcthqFmtProg.lean LOADS. Nothing in Lean hashes anything: it is a label: what it is worth is what the hold of that sum in a sandbox is worth. -/
noncomputable def Ybaf.pinned : Pinned := { name := "ybulkcthqfmt", sum := "f0246849b4e4f3fc59f3b549635d87f12210fdb8c4699c73d068e3ae82a260b1", checked := Ybaf.checked }
namespace Rows
def none {H : Type} : Left H := { results := [], args := [] }

/- WHAT THE LISTED PACKAGE-LEVEL VARIABLES READ AS WHEN THE CALL BEGINS. Each datum BY PROGRAM (the guide's laid-datum.mjs) off the statement by which the dump's own 'gosem.cut.vars' lays the variable. In a bare row this is a premise. The card (YbulkcthqFmtCards.lean) ties it to the program's text. -/
def laid_example_com_coffhand_coffhand_pe_ErrUnsigned {H : Type} : DataW H := .iface "*errors.errorString" (.ptr (.agg [.lit (.string [116, 104, 101, 32, 105, 109, 97, 103, 101, 32, 105, 115, 32, 110, 111, 116, 32, 115, 105, 103, 110, 101, 100])]))
def laid_example_com_coffhand_coffhand_pe_ErrMalformed {H : Type} : DataW H := .iface "*errors.errorString" (.ptr (.agg [.lit (.string [109, 97, 108, 102, 111, 114, 109, 101, 100, 32, 105, 109, 97, 103, 101])]))
def laid_example_com_coffhand_coffhand_pe_ErrTruncated {H : Type} : DataW H := .iface "*errors.errorString" (.ptr (.agg [.lit (.string [116, 114, 117, 110, 99, 97, 116, 101, 100, 32, 105, 109, 97, 103, 101])]))
def laid_example_com_coffhand_coffhand_msi_ErrMalformed {H : Type} : DataW H := .iface "*errors.errorString" (.ptr (.agg [.lit (.string [109, 97, 108, 102, 111, 114, 109, 101, 100, 32, 77, 83, 73, 32, 102, 105, 108, 101])]))
def laid_example_com_coffhand_coffhand_msi_ErrNoStream {H : Type} : DataW H := .iface "*errors.errorString" (.ptr (.agg [.lit (.string [110, 111, 32, 115, 117, 99, 104, 32, 115, 116, 114, 101, 97, 109, 32, 105, 110, 32, 116, 104, 101, 32, 114, 111, 111, 116, 32, 115, 116, 111, 114, 97, 103, 101])]))
/-- One of Go's own tables, pinned by name: the form's constant. -/
def laid_unicode_CaseRanges : DataW Unit := Go.Pinned.caseRanges

/-- 'pe.LawS4748AExact': WHATEVER THE INPUT: true; the input reads as it did. -/
def lawS4748AExactSpec : ChangeSpec := { name := "lawS4748AExact", vars := ["example.com/coffhand/coffhand/pe.ErrUnsigned", "example.com/coffhand/coffhand/pe.ErrMalformed"], fn := fun _ => fun
  | [d1, d2, g1, g2] => { results := [.lit (.bool true)], args := [d1, d2], vars := [g1, g2] }
  | _ => none }
def lawS4748AExactRow : OpenClaim := { program := "ybulkcthqfmt", sum := "f0246849b4e4f3fc59f3b549635d87f12210fdb8c4699c73d068e3ae82a260b1", func := "example.com/coffhand/coffhand/pe.LawS4748AExact", spec := "lawS4748AExact", stops := ["fmt.errorf"], inPlace := ["fmt.errorf", "internal/reflectlite.TypeOf"], unfollowed := true, recurses := true, named := ["example.com/coffhand/coffhand/pe.ErrUnsigned", "example.com/coffhand/coffhand/pe.ErrMalformed"], ifaces := true, apart := false, laid := [("example.com/coffhand/coffhand/pe.ErrUnsigned", laid_example_com_coffhand_coffhand_pe_ErrUnsigned), ("example.com/coffhand/coffhand/pe.ErrMalformed", laid_example_com_coffhand_coffhand_pe_ErrMalformed)] }
/-- NO THEOREM (fmt's text is open here; it may be false): for the released tool's asking of the row's closed facts alone. THE STATEMENT IS 'LawS4748AExactToldSaid' (YbulkcthqFmtCards.lean). -/
def LawS4748AExactFormAsk : Prop := lawS4748AExactRow.holds Ybaf.pinned (OpenSpec.ofChange lawS4748AExactSpec)

/-- ITS FALSE NEIGHBOUR: 'it returns false'. Refute it at one input. -/
def lawS4748AExactWrong : ChangeSpec := { name := "lawS4748AExact", vars := ["example.com/coffhand/coffhand/pe.ErrUnsigned", "example.com/coffhand/coffhand/pe.ErrMalformed"], fn := fun _ => fun
  | [d1, d2, g1, g2] => { results := [.lit (.bool false)], args := [d1, d2], vars := [g1, g2] }
  | _ => none }
def LawS4748AExactWrongFormAsk : Prop := lawS4748AExactRow.holds Ybaf.pinned (OpenSpec.ofChange lawS4748AExactWrong)

/-- 'pe.LawS4748AForced': WHATEVER THE INPUT: true; the input reads as it did. -/
def lawS4748AForcedSpec : ChangeSpec := { name := "lawS4748AForced", vars := ["example.com/coffhand/coffhand/pe.ErrTruncated", "example.com/coffhand/coffhand/pe.ErrUnsigned", "example.com/coffhand/coffhand/pe.ErrMalformed"], fn := fun _ => fun
  | [d1, d2, d3, d4, g1, g2, g3] => { results := [.lit (.bool true)], args := [d1, d2, d3, d4], vars := [g1, g2, g3] }
  | _ => none }
def lawS4748AForcedRow : OpenClaim := { program := "ybulkcthqfmt", sum := "f0246849b4e4f3fc59f3b549635d87f12210fdb8c4699c73d068e3ae82a260b1", func := "example.com/coffhand/coffhand/pe.LawS4748AForced", spec := "lawS4748AForced", stops := ["fmt.errorf"], inPlace := ["fmt.errorf", "internal/reflectlite.TypeOf"], unfollowed := true, recurses := true, named := ["example.com/coffhand/coffhand/pe.ErrTruncated", "example.com/coffhand/coffhand/pe.ErrUnsigned", "example.com/coffhand/coffhand/pe.ErrMalformed"], ifaces := true, apart := false, laid := [("example.com/coffhand/coffhand/pe.ErrUnsigned", laid_example_com_coffhand_coffhand_pe_ErrUnsigned), ("example.com/coffhand/coffhand/pe.ErrTruncated", laid_example_com_coffhand_coffhand_pe_ErrTruncated), ("example.com/coffhand/coffhand/pe.ErrMalformed", laid_example_com_coffhand_coffhand_pe_ErrMalformed)] }
/-- NO THEOREM (fmt's text is open here; it may be false): for the released tool's asking of the row's closed facts alone. THE STATEMENT IS 'LawS4748AForcedToldSaid' (YbulkcthqFmtCards.lean). -/
def LawS4748AForcedFormAsk : Prop := lawS4748AForcedRow.holds Ybaf.pinned (OpenSpec.ofChange lawS4748AForcedSpec)

/-- ITS FALSE NEIGHBOUR: 'it returns false'. Refute it at one input. -/
def lawS4748AForcedWrong : ChangeSpec := { name := "lawS4748AForced", vars := ["example.com/coffhand/coffhand/pe.ErrTruncated", "example.com/coffhand/coffhand/pe.ErrUnsigned", "example.com/coffhand/coffhand/pe.ErrMalformed"], fn := fun _ => fun
  | [d1, d2, d3, d4, g1, g2, g3] => { results := [.lit (.bool false)], args := [d1, d2, d3, d4], vars := [g1, g2, g3] }
  | _ => none }
def LawS4748AForcedWrongFormAsk : Prop := lawS4748AForcedRow.holds Ybaf.pinned (OpenSpec.ofChange lawS4748AForcedWrong)

/-- 'msi.LawS4748CFind': WHATEVER THE INPUT: true; the input reads as it did. -/
def lawS4748CFindSpec : ChangeSpec := { name := "lawS4748CFind", vars := ["example.com/coffhand/coffhand/msi.ErrMalformed", "example.com/coffhand/coffhand/msi.ErrNoStream"], fn := fun _ => fun
  | [d1, d2, d3, d4, d5, g1, g2] => { results := [.lit (.bool true)], args := [d1, d2, d3, d4, d5], vars := [g1, g2] }
  | _ => none }
def lawS4748CFindRow : OpenClaim := { program := "ybulkcthqfmt", sum := "f0246849b4e4f3fc59f3b549635d87f12210fdb8c4699c73d068e3ae82a260b1", func := "example.com/coffhand/coffhand/msi.LawS4748CFind", spec := "lawS4748CFind", stops := ["fmt.errorf"], inPlace := ["fmt.errorf", "internal/reflectlite.TypeOf"], unfollowed := true, recurses := true, named := ["example.com/coffhand/coffhand/msi.ErrMalformed", "example.com/coffhand/coffhand/msi.ErrNoStream", "unicode.CaseRanges"], ifaces := true, apart := false, laid := [("example.com/coffhand/coffhand/msi.ErrMalformed", laid_example_com_coffhand_coffhand_msi_ErrMalformed), ("example.com/coffhand/coffhand/msi.ErrNoStream", laid_example_com_coffhand_coffhand_msi_ErrNoStream), ("unicode.CaseRanges", laid_unicode_CaseRanges)] }
/-- NO THEOREM (fmt's text is open here; it may be false): for the released tool's asking of the row's closed facts alone. THE STATEMENT IS 'LawS4748CFindToldSaid' (YbulkcthqFmtCards.lean). -/
def LawS4748CFindFormAsk : Prop := lawS4748CFindRow.holds Ybaf.pinned (OpenSpec.ofChange lawS4748CFindSpec)

/-- ITS FALSE NEIGHBOUR: 'it returns false'. Refute it at one input. -/
def lawS4748CFindWrong : ChangeSpec := { name := "lawS4748CFind", vars := ["example.com/coffhand/coffhand/msi.ErrMalformed", "example.com/coffhand/coffhand/msi.ErrNoStream"], fn := fun _ => fun
  | [d1, d2, d3, d4, d5, g1, g2] => { results := [.lit (.bool false)], args := [d1, d2, d3, d4, d5], vars := [g1, g2] }
  | _ => none }
def LawS4748CFindWrongFormAsk : Prop := lawS4748CFindRow.holds Ybaf.pinned (OpenSpec.ofChange lawS4748CFindWrong)

end Rows
end Go.Proofs.YbulkcthqFmt
