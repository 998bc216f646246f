/-
  DERIVED. GIVEN WITH THE SEED: THE CARDS: each row of YtfpboapgfbehlaaDoorRows.lean that lists a variable, with what it lists TIED to the program's text (the seventh form; the later family's looks); each row that meets fmt, with fmt's text TOLD by the authors' own Lean function (tested against real Go, not proved from fmt's source: count such statements apart). THE CARD IS WHAT COUNTS. Prove the row's statement (the work); the ties are given (YtfpboapgfbehlaaDoorTie.lean); close each card by the builder's one call (the guide's Derived/Test/ToyasCard.lean, 'card_holds'). Laid BY PROGRAM, IN A SANDBOX (cutbox-door.mjs). By AI agents, Wed Nov 11 2026. No macro, syntax, notation, axiom, sorry.
-/
import Derived.Test.YtfpboapgfbehlaaDoorRows
import GoSem.ClaimSeven
namespace Go.Proofs.YtfpboapgfbehlaaDoor
namespace Rows

/-- THE TIED CARD OF 'laws.FnValid'. -/
def fnValidCard : Claim7 := { stood := { row := fnValidRow, standIns := [], harness := (true, "56f641eee9871936753319964fce589029ad9bc3f39f81846d701b5ea321dccc"), looks := false }, kinds := [], alts := [], laidByText := true, laidKinds := [.data], laidTests := true, laidLooks := .later }
def FnValidCardSaid : Prop := Claim7.holds Tryd.pinned (.plain (OpenSpec.ofChange fnValidSpec)) fnValidCard

/-- THE TIED CARD OF 'laws.FnSplit'. -/
def fnSplitCard : Claim7 := { stood := { row := fnSplitRow, standIns := [], harness := (true, "56f641eee9871936753319964fce589029ad9bc3f39f81846d701b5ea321dccc"), looks := false }, kinds := [], alts := [], laidByText := true, laidKinds := [.data], laidTests := true, laidLooks := .later }
def FnSplitCardSaid : Prop := Claim7.holds Tryd.pinned (.plain (OpenSpec.ofChange fnSplitSpec)) fnSplitCard

/-- THE TIED CARD OF 'laws.FnCanonical'. -/
def fnCanonicalCard : Claim7 := { stood := { row := fnCanonicalRow, standIns := [], harness := (true, "56f641eee9871936753319964fce589029ad9bc3f39f81846d701b5ea321dccc"), looks := false }, kinds := [], alts := [], laidByText := true, laidKinds := [.data], laidTests := true, laidLooks := .later }
def FnCanonicalCardSaid : Prop := Claim7.holds Tryd.pinned (.plain (OpenSpec.ofChange fnCanonicalSpec)) fnCanonicalCard

/-- THE TIED CARD OF 'laws.FnMajorPrefix'. -/
def fnMajorPrefixCard : Claim7 := { stood := { row := fnMajorPrefixRow, standIns := [], harness := (true, "56f641eee9871936753319964fce589029ad9bc3f39f81846d701b5ea321dccc"), looks := false }, kinds := [], alts := [], laidByText := true, laidKinds := [.data], laidTests := true, laidLooks := .later }
def FnMajorPrefixCardSaid : Prop := Claim7.holds Tryd.pinned (.plain (OpenSpec.ofChange fnMajorPrefixSpec)) fnMajorPrefixCard

/-- THE TIED CARD OF 'laws.FnMajor'. -/
def fnMajorCard : Claim7 := { stood := { row := fnMajorRow, standIns := [], harness := (true, "56f641eee9871936753319964fce589029ad9bc3f39f81846d701b5ea321dccc"), looks := false }, kinds := [], alts := [], laidByText := true, laidKinds := [.data], laidTests := true, laidLooks := .later }
def FnMajorCardSaid : Prop := Claim7.holds Tryd.pinned (.plain (OpenSpec.ofChange fnMajorSpec)) fnMajorCard

/-- THE TIED CARD OF 'laws.FnCanonicalVersion'. -/
def fnCanonicalVersionCard : Claim7 := { stood := { row := fnCanonicalVersionRow, standIns := [], harness := (true, "56f641eee9871936753319964fce589029ad9bc3f39f81846d701b5ea321dccc"), looks := false }, kinds := [], alts := [], laidByText := true, laidKinds := [.data], laidTests := true, laidLooks := .later }
def FnCanonicalVersionCardSaid : Prop := Claim7.holds Tryd.pinned (.plain (OpenSpec.ofChange fnCanonicalVersionSpec)) fnCanonicalVersionCard

/-- THE TIED CARD OF 'laws.FnMax'. -/
def fnMaxCard : Claim7 := { stood := { row := fnMaxRow, standIns := [], harness := (true, "56f641eee9871936753319964fce589029ad9bc3f39f81846d701b5ea321dccc"), looks := false }, kinds := [], alts := [], laidByText := true, laidKinds := [.data], laidTests := true, laidLooks := .later }
def FnMaxCardSaid : Prop := Claim7.holds Tryd.pinned (.plain (OpenSpec.ofChange fnMaxSpec)) fnMaxCard

/-- THE SECOND FORM's CARD OF 'laws.FnValid'. -/
def fnValidUptoCard : Claim7 := { stood := { row := fnValidUptoRow, standIns := [], harness := (true, "56f641eee9871936753319964fce589029ad9bc3f39f81846d701b5ea321dccc"), looks := false }, kinds := [], alts := [], laidByText := true, laidKinds := [.data], laidTests := true, laidLooks := .later }
def FnValidUptoCardSaid : Prop := Claim7.holds Tryd.pinned (.plain (OpenSpec.upto fnValidSpec)) fnValidUptoCard

/-- THE SECOND FORM's CARD OF 'laws.FnSplit'. -/
def fnSplitUptoCard : Claim7 := { stood := { row := fnSplitUptoRow, standIns := [], harness := (true, "56f641eee9871936753319964fce589029ad9bc3f39f81846d701b5ea321dccc"), looks := false }, kinds := [], alts := [], laidByText := true, laidKinds := [.data], laidTests := true, laidLooks := .later }
def FnSplitUptoCardSaid : Prop := Claim7.holds Tryd.pinned (.plain (OpenSpec.upto fnSplitSpec)) fnSplitUptoCard

/-- THE SECOND FORM's CARD OF 'laws.FnCanonical'. -/
def fnCanonicalUptoCard : Claim7 := { stood := { row := fnCanonicalUptoRow, standIns := [], harness := (true, "56f641eee9871936753319964fce589029ad9bc3f39f81846d701b5ea321dccc"), looks := false }, kinds := [], alts := [], laidByText := true, laidKinds := [.data], laidTests := true, laidLooks := .later }
def FnCanonicalUptoCardSaid : Prop := Claim7.holds Tryd.pinned (.plain (OpenSpec.upto fnCanonicalSpec)) fnCanonicalUptoCard

/-- THE SECOND FORM's CARD OF 'laws.FnMajorPrefix'. -/
def fnMajorPrefixUptoCard : Claim7 := { stood := { row := fnMajorPrefixUptoRow, standIns := [], harness := (true, "56f641eee9871936753319964fce589029ad9bc3f39f81846d701b5ea321dccc"), looks := false }, kinds := [], alts := [], laidByText := true, laidKinds := [.data], laidTests := true, laidLooks := .later }
def FnMajorPrefixUptoCardSaid : Prop := Claim7.holds Tryd.pinned (.plain (OpenSpec.upto fnMajorPrefixSpec)) fnMajorPrefixUptoCard

/-- THE SECOND FORM's CARD OF 'laws.FnMajor'. -/
def fnMajorUptoCard : Claim7 := { stood := { row := fnMajorUptoRow, standIns := [], harness := (true, "56f641eee9871936753319964fce589029ad9bc3f39f81846d701b5ea321dccc"), looks := false }, kinds := [], alts := [], laidByText := true, laidKinds := [.data], laidTests := true, laidLooks := .later }
def FnMajorUptoCardSaid : Prop := Claim7.holds Tryd.pinned (.plain (OpenSpec.upto fnMajorSpec)) fnMajorUptoCard

/-- THE SECOND FORM's CARD OF 'laws.FnCanonicalVersion'. -/
def fnCanonicalVersionUptoCard : Claim7 := { stood := { row := fnCanonicalVersionUptoRow, standIns := [], harness := (true, "56f641eee9871936753319964fce589029ad9bc3f39f81846d701b5ea321dccc"), looks := false }, kinds := [], alts := [], laidByText := true, laidKinds := [.data], laidTests := true, laidLooks := .later }
def FnCanonicalVersionUptoCardSaid : Prop := Claim7.holds Tryd.pinned (.plain (OpenSpec.upto fnCanonicalVersionSpec)) fnCanonicalVersionUptoCard

/-- THE SECOND FORM's CARD OF 'laws.FnMax'. -/
def fnMaxUptoCard : Claim7 := { stood := { row := fnMaxUptoRow, standIns := [], harness := (true, "56f641eee9871936753319964fce589029ad9bc3f39f81846d701b5ea321dccc"), looks := false }, kinds := [], alts := [], laidByText := true, laidKinds := [.data], laidTests := true, laidLooks := .later }
def FnMaxUptoCardSaid : Prop := Claim7.holds Tryd.pinned (.plain (OpenSpec.upto fnMaxSpec)) fnMaxUptoCard
end Rows
end Go.Proofs.YtfpboapgfbehlaaDoor
