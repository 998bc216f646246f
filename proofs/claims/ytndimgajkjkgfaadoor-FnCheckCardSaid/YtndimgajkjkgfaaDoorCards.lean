/-
  DERIVED. GIVEN WITH THE SEED: THE CARDS: each row of YtndimgajkjkgfaaDoorRows.lean that lists a variable, with what it lists TIED to the program's text (the seventh form; the later family's looks); each row that meets fmt, with fmt's text TOLD by the authors' own Lean function (tested against real Go, not proved from fmt's source: count such statements apart). THE CARD IS WHAT COUNTS. Prove the row's statement (the work); the ties are given (YtndimgajkjkgfaaDoorTie.lean); close each card by the builder's one call (the guide's Derived/Test/ToyasCard.lean, 'card_holds'). Laid BY PROGRAM, IN A SANDBOX (cutbox-door.mjs). By AI agents, Wed Nov 11 2026. No macro, syntax, notation, axiom, sorry.
-/
import Derived.Test.YtndimgajkjkgfaaDoorRows
import GoSem.ClaimSeven
namespace Go.Proofs.YtndimgajkjkgfaaDoor
namespace Rows

/-- THE TIED CARD OF 'laws.FnEscapeBack'. -/
def fnEscapeBackCard : Claim7 := { stood := { row := fnEscapeBackRow, standIns := [], harness := (true, "05c2f541d8a71b25196bbf12d418031e3fa87909c2b2358068a1ee335bad033d"), looks := false }, kinds := [], alts := [], laidByText := true, laidKinds := [.data], laidTests := true, laidLooks := .later }
def FnEscapeBackCardSaid : Prop := Claim7.holds Tryd.pinned (.plain (OpenSpec.ofChange fnEscapeBackSpec)) fnEscapeBackCard

/-- THE TIED CARD OF 'laws.FnCheckPath'. -/
def fnCheckPathCard : Claim7 := { stood := { row := fnCheckPathRow, standIns := [], harness := (true, "05c2f541d8a71b25196bbf12d418031e3fa87909c2b2358068a1ee335bad033d"), looks := false }, kinds := [], alts := [], laidByText := true, laidKinds := [.data], laidTests := true, laidLooks := .later }
def FnCheckPathCardSaid : Prop := Claim7.holds Tryd.pinned (.plain (OpenSpec.ofChange fnCheckPathSpec)) fnCheckPathCard

/-- THE TIED CARD OF 'laws.FnFile'. -/
def fnFileCard : Claim7 := { stood := { row := fnFileRow, standIns := [], harness := (true, "05c2f541d8a71b25196bbf12d418031e3fa87909c2b2358068a1ee335bad033d"), looks := false }, kinds := [], alts := [], laidByText := true, laidKinds := [.data], laidTests := true, laidLooks := .later }
def FnFileCardSaid : Prop := Claim7.holds Tryd.pinned (.plain (OpenSpec.ofChange fnFileSpec)) fnFileCard

/-- THE TIED CARD OF 'laws.FnImport'. -/
def fnImportCard : Claim7 := { stood := { row := fnImportRow, standIns := [], harness := (true, "05c2f541d8a71b25196bbf12d418031e3fa87909c2b2358068a1ee335bad033d"), looks := false }, kinds := [], alts := [], laidByText := true, laidKinds := [.data], laidTests := true, laidLooks := .later }
def FnImportCardSaid : Prop := Claim7.holds Tryd.pinned (.plain (OpenSpec.ofChange fnImportSpec)) fnImportCard

/-- THE TIED CARD OF 'laws.FnNarrower'. -/
def fnNarrowerCard : Claim7 := { stood := { row := fnNarrowerRow, standIns := [], harness := (true, "05c2f541d8a71b25196bbf12d418031e3fa87909c2b2358068a1ee335bad033d"), looks := false }, kinds := [], alts := [], laidByText := true, laidKinds := [.data], laidTests := true, laidLooks := .later }
def FnNarrowerCardSaid : Prop := Claim7.holds Tryd.pinned (.plain (OpenSpec.ofChange fnNarrowerSpec)) fnNarrowerCard

/-- THE TIED CARD OF 'laws.FnEscape'. -/
def fnEscapeCard : Claim7 := { stood := { row := fnEscapeRow, standIns := [], harness := (true, "05c2f541d8a71b25196bbf12d418031e3fa87909c2b2358068a1ee335bad033d"), looks := false }, kinds := [], alts := [], laidByText := true, laidKinds := [.data], laidTests := true, laidLooks := .later }
def FnEscapeCardSaid : Prop := Claim7.holds Tryd.pinned (.plain (OpenSpec.ofChange fnEscapeSpec)) fnEscapeCard

/-- THE TIED CARD OF 'laws.FnUnescape'. -/
def fnUnescapeCard : Claim7 := { stood := { row := fnUnescapeRow, standIns := [], harness := (true, "05c2f541d8a71b25196bbf12d418031e3fa87909c2b2358068a1ee335bad033d"), looks := false }, kinds := [], alts := [], laidByText := true, laidKinds := [.data], laidTests := true, laidLooks := .later }
def FnUnescapeCardSaid : Prop := Claim7.holds Tryd.pinned (.plain (OpenSpec.ofChange fnUnescapeSpec)) fnUnescapeCard

/-- THE TIED CARD OF 'laws.FnUnescapeVersion'. -/
def fnUnescapeVersionCard : Claim7 := { stood := { row := fnUnescapeVersionRow, standIns := [], harness := (true, "05c2f541d8a71b25196bbf12d418031e3fa87909c2b2358068a1ee335bad033d"), looks := false }, kinds := [], alts := [], laidByText := true, laidKinds := [.data], laidTests := true, laidLooks := .later }
def FnUnescapeVersionCardSaid : Prop := Claim7.holds Tryd.pinned (.plain (OpenSpec.ofChange fnUnescapeVersionSpec)) fnUnescapeVersionCard

/-- THE TIED CARD OF 'laws.FnCheck'. -/
def fnCheckCard : Claim7 := { stood := { row := fnCheckRow, standIns := [], harness := (true, "05c2f541d8a71b25196bbf12d418031e3fa87909c2b2358068a1ee335bad033d"), looks := false }, kinds := [], alts := [], laidByText := true, laidKinds := [.data], laidTests := true, laidLooks := .later }
def FnCheckCardSaid : Prop := Claim7.holds Tryd.pinned (.plain (OpenSpec.ofChange fnCheckSpec)) fnCheckCard

/-- THE TIED CARD OF 'laws.FnEscapeVersion'. -/
def fnEscapeVersionCard : Claim7 := { stood := { row := fnEscapeVersionRow, standIns := [], harness := (true, "05c2f541d8a71b25196bbf12d418031e3fa87909c2b2358068a1ee335bad033d"), looks := false }, kinds := [], alts := [], laidByText := true, laidKinds := [.data], laidTests := true, laidLooks := .later }
def FnEscapeVersionCardSaid : Prop := Claim7.holds Tryd.pinned (.plain (OpenSpec.ofChange fnEscapeVersionSpec)) fnEscapeVersionCard

/-- THE SECOND FORM's CARD OF 'laws.FnEscapeBack'. -/
def fnEscapeBackUptoCard : Claim7 := { stood := { row := fnEscapeBackUptoRow, standIns := [], harness := (true, "05c2f541d8a71b25196bbf12d418031e3fa87909c2b2358068a1ee335bad033d"), looks := false }, kinds := [], alts := [], laidByText := true, laidKinds := [.data], laidTests := true, laidLooks := .later }
def FnEscapeBackUptoCardSaid : Prop := Claim7.holds Tryd.pinned (.plain (OpenSpec.upto fnEscapeBackSpec)) fnEscapeBackUptoCard

/-- THE SECOND FORM's CARD OF 'laws.FnCheckPath'. -/
def fnCheckPathUptoCard : Claim7 := { stood := { row := fnCheckPathUptoRow, standIns := [], harness := (true, "05c2f541d8a71b25196bbf12d418031e3fa87909c2b2358068a1ee335bad033d"), looks := false }, kinds := [], alts := [], laidByText := true, laidKinds := [.data], laidTests := true, laidLooks := .later }
def FnCheckPathUptoCardSaid : Prop := Claim7.holds Tryd.pinned (.plain (OpenSpec.upto fnCheckPathSpec)) fnCheckPathUptoCard

/-- THE SECOND FORM's CARD OF 'laws.FnFile'. -/
def fnFileUptoCard : Claim7 := { stood := { row := fnFileUptoRow, standIns := [], harness := (true, "05c2f541d8a71b25196bbf12d418031e3fa87909c2b2358068a1ee335bad033d"), looks := false }, kinds := [], alts := [], laidByText := true, laidKinds := [.data], laidTests := true, laidLooks := .later }
def FnFileUptoCardSaid : Prop := Claim7.holds Tryd.pinned (.plain (OpenSpec.upto fnFileSpec)) fnFileUptoCard

/-- THE SECOND FORM's CARD OF 'laws.FnImport'. -/
def fnImportUptoCard : Claim7 := { stood := { row := fnImportUptoRow, standIns := [], harness := (true, "05c2f541d8a71b25196bbf12d418031e3fa87909c2b2358068a1ee335bad033d"), looks := false }, kinds := [], alts := [], laidByText := true, laidKinds := [.data], laidTests := true, laidLooks := .later }
def FnImportUptoCardSaid : Prop := Claim7.holds Tryd.pinned (.plain (OpenSpec.upto fnImportSpec)) fnImportUptoCard

/-- THE SECOND FORM's CARD OF 'laws.FnNarrower'. -/
def fnNarrowerUptoCard : Claim7 := { stood := { row := fnNarrowerUptoRow, standIns := [], harness := (true, "05c2f541d8a71b25196bbf12d418031e3fa87909c2b2358068a1ee335bad033d"), looks := false }, kinds := [], alts := [], laidByText := true, laidKinds := [.data], laidTests := true, laidLooks := .later }
def FnNarrowerUptoCardSaid : Prop := Claim7.holds Tryd.pinned (.plain (OpenSpec.upto fnNarrowerSpec)) fnNarrowerUptoCard

/-- THE SECOND FORM's CARD OF 'laws.FnEscape'. -/
def fnEscapeUptoCard : Claim7 := { stood := { row := fnEscapeUptoRow, standIns := [], harness := (true, "05c2f541d8a71b25196bbf12d418031e3fa87909c2b2358068a1ee335bad033d"), looks := false }, kinds := [], alts := [], laidByText := true, laidKinds := [.data], laidTests := true, laidLooks := .later }
def FnEscapeUptoCardSaid : Prop := Claim7.holds Tryd.pinned (.plain (OpenSpec.upto fnEscapeSpec)) fnEscapeUptoCard

/-- THE SECOND FORM's CARD OF 'laws.FnUnescape'. -/
def fnUnescapeUptoCard : Claim7 := { stood := { row := fnUnescapeUptoRow, standIns := [], harness := (true, "05c2f541d8a71b25196bbf12d418031e3fa87909c2b2358068a1ee335bad033d"), looks := false }, kinds := [], alts := [], laidByText := true, laidKinds := [.data], laidTests := true, laidLooks := .later }
def FnUnescapeUptoCardSaid : Prop := Claim7.holds Tryd.pinned (.plain (OpenSpec.upto fnUnescapeSpec)) fnUnescapeUptoCard

/-- THE SECOND FORM's CARD OF 'laws.FnUnescapeVersion'. -/
def fnUnescapeVersionUptoCard : Claim7 := { stood := { row := fnUnescapeVersionUptoRow, standIns := [], harness := (true, "05c2f541d8a71b25196bbf12d418031e3fa87909c2b2358068a1ee335bad033d"), looks := false }, kinds := [], alts := [], laidByText := true, laidKinds := [.data], laidTests := true, laidLooks := .later }
def FnUnescapeVersionUptoCardSaid : Prop := Claim7.holds Tryd.pinned (.plain (OpenSpec.upto fnUnescapeVersionSpec)) fnUnescapeVersionUptoCard

/-- THE SECOND FORM's CARD OF 'laws.FnCheck'. -/
def fnCheckUptoCard : Claim7 := { stood := { row := fnCheckUptoRow, standIns := [], harness := (true, "05c2f541d8a71b25196bbf12d418031e3fa87909c2b2358068a1ee335bad033d"), looks := false }, kinds := [], alts := [], laidByText := true, laidKinds := [.data], laidTests := true, laidLooks := .later }
def FnCheckUptoCardSaid : Prop := Claim7.holds Tryd.pinned (.plain (OpenSpec.upto fnCheckSpec)) fnCheckUptoCard

/-- THE SECOND FORM's CARD OF 'laws.FnEscapeVersion'. -/
def fnEscapeVersionUptoCard : Claim7 := { stood := { row := fnEscapeVersionUptoRow, standIns := [], harness := (true, "05c2f541d8a71b25196bbf12d418031e3fa87909c2b2358068a1ee335bad033d"), looks := false }, kinds := [], alts := [], laidByText := true, laidKinds := [.data], laidTests := true, laidLooks := .later }
def FnEscapeVersionUptoCardSaid : Prop := Claim7.holds Tryd.pinned (.plain (OpenSpec.upto fnEscapeVersionSpec)) fnEscapeVersionUptoCard
end Rows
end Go.Proofs.YtndimgajkjkgfaaDoor
