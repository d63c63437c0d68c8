/-
  DERIVED. GIVEN WITH THE SEED: THE PROGRAM's TIES (one call each: nine closed facts by the kernel) AND EACH ROW's TIE, after the 31st guide's Derived/Test/Toyas{Tie, Card}.lean. No idea stands in it: it is a product of the set-up. Laid BY PROGRAM, IN A SANDBOX (cutbox-door.mjs). By AI agents, Wed Nov 11 2026. No macro, syntax, notation, axiom, sorry.
-/
import Derived.Test.YbulkcthqFmtRows
import Derived.LaidByTextLater
import Derived.SevenTiedAt
import Derived.LaidSub
import Derived.LaidOnce
namespace Go.Proofs.YbulkcthqFmt
open Go
set_option maxRecDepth 100000
theorem seatTie1 : Ybaf.prog.laidByTextLater [("example.com/coffhand/coffhand/msi.ErrMalformed", Rows.laid_example_com_coffhand_coffhand_msi_ErrMalformed), ("example.com/coffhand/coffhand/msi.ErrNoStream", Rows.laid_example_com_coffhand_coffhand_msi_ErrNoStream), ("example.com/coffhand/coffhand/pe.ErrUnsigned", Rows.laid_example_com_coffhand_coffhand_pe_ErrUnsigned), ("example.com/coffhand/coffhand/pe.ErrTruncated", Rows.laid_example_com_coffhand_coffhand_pe_ErrTruncated), ("example.com/coffhand/coffhand/pe.ErrMalformed", Rows.laid_example_com_coffhand_coffhand_pe_ErrMalformed)] [.sentinel, .sentinel, .sentinel, .sentinel, .sentinel] true :=
  Program.laidByTextLater_by_one 104 8 2 (by kernel_rfl) (by kernel_rfl) (by kernel_rfl) (by kernel_rfl) (by kernel_rfl) (by kernel_rfl) (fun _ _ => by kernel_rfl)
theorem pin_laid_unicode_CaseRanges : Ybaf.pinned.checked.prog.pinnedFits "unicode.CaseRanges" = true := by kernel_rfl
theorem noOwnUnsafe : Ybaf.pinned.checked.prog.headLifts.contains "ownunsafe" = false := by kernel_rfl
theorem tie : Ybaf.prog.laidByTextLater [("example.com/coffhand/coffhand/pe.ErrUnsigned", Rows.laid_example_com_coffhand_coffhand_pe_ErrUnsigned), ("example.com/coffhand/coffhand/pe.ErrMalformed", Rows.laid_example_com_coffhand_coffhand_pe_ErrMalformed)] [.sentinel, .sentinel] true :=
  Program.laidByTextLater.sub seatTie1 ["example.com/coffhand/coffhand/pe.ErrUnsigned", "example.com/coffhand/coffhand/pe.ErrMalformed"] (by kernel_rfl) (by kernel_rfl)
theorem lawS4748AExact_row_tie : Rows.lawS4748AExactRow.laidByTextAt .later Ybaf.pinned [.sentinel, .sentinel] true :=
  OpenClaim.laidByTextAt_later rfl rfl tie noOwnUnsafe
theorem tie2 : Ybaf.prog.laidByTextLater [("example.com/coffhand/coffhand/pe.ErrUnsigned", Rows.laid_example_com_coffhand_coffhand_pe_ErrUnsigned), ("example.com/coffhand/coffhand/pe.ErrTruncated", Rows.laid_example_com_coffhand_coffhand_pe_ErrTruncated), ("example.com/coffhand/coffhand/pe.ErrMalformed", Rows.laid_example_com_coffhand_coffhand_pe_ErrMalformed)] [.sentinel, .sentinel, .sentinel] true :=
  Program.laidByTextLater.sub seatTie1 ["example.com/coffhand/coffhand/pe.ErrUnsigned", "example.com/coffhand/coffhand/pe.ErrTruncated", "example.com/coffhand/coffhand/pe.ErrMalformed"] (by kernel_rfl) (by kernel_rfl)
theorem lawS4748AForced_row_tie : Rows.lawS4748AForcedRow.laidByTextAt .later Ybaf.pinned [.sentinel, .sentinel, .sentinel] true :=
  OpenClaim.laidByTextAt_later rfl rfl tie2 noOwnUnsafe
theorem fits3 : Ybaf.pinned.checked.prog.listedFits [("example.com/coffhand/coffhand/msi.ErrMalformed", Rows.laid_example_com_coffhand_coffhand_msi_ErrMalformed), ("example.com/coffhand/coffhand/msi.ErrNoStream", Rows.laid_example_com_coffhand_coffhand_msi_ErrNoStream), ("unicode.CaseRanges", Rows.laid_unicode_CaseRanges)] = true := by
  unfold Program.listedFits
  rw [noOwnUnsafe]
  kernel_rfl
theorem tie3 : Ybaf.prog.laidByTextLater [("example.com/coffhand/coffhand/msi.ErrMalformed", Rows.laid_example_com_coffhand_coffhand_msi_ErrMalformed), ("example.com/coffhand/coffhand/msi.ErrNoStream", Rows.laid_example_com_coffhand_coffhand_msi_ErrNoStream)] [.sentinel, .sentinel] true :=
  Program.laidByTextLater.sub seatTie1 ["example.com/coffhand/coffhand/msi.ErrMalformed", "example.com/coffhand/coffhand/msi.ErrNoStream"] (by kernel_rfl) (by kernel_rfl)
theorem lawS4748CFind_row_tie : Rows.lawS4748CFindRow.laidByTextAt .later Ybaf.pinned [.sentinel, .sentinel, .pinned] true :=
  OpenClaim.laidByTextAt_pinned rfl rfl tie3 rfl rfl rfl rfl (fun y hy _e => by
    simp only [Rows.lawS4748CFindRow, List.zip_cons_cons, List.zip_nil_right, List.mem_cons, List.mem_nil_iff, or_false] at hy
    rcases hy with rfl | rfl | rfl
    · cases _e
    · cases _e
    · exact ⟨pin_laid_unicode_CaseRanges, by kernel_rfl⟩) fits3
end Go.Proofs.YbulkcthqFmt
