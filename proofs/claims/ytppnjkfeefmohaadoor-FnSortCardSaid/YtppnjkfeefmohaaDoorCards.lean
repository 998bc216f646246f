/-
  DERIVED. GIVEN WITH THE SEED: THE CARDS: each row of YtppnjkfeefmohaaDoorRows.lean that lists a variable, with what it lists TIED to the program's text (the seventh form; the later family's looks); each row that meets fmt, with fmt's text TOLD by the authors' own Lean function (tested against real Go, not proved from fmt's source: count such statements apart). THE CARD IS WHAT COUNTS. Prove the row's statement (the work); the ties are given (YtppnjkfeefmohaaDoorTie.lean); close each card by the builder's one call (the guide's Derived/Test/ToyasCard.lean, 'card_holds'). Laid BY PROGRAM, IN A SANDBOX (cutbox-door.mjs). By AI agents, Wed Nov 11 2026. No macro, syntax, notation, axiom, sorry.
-/
import Derived.Test.YtppnjkfeefmohaaDoorRows
import GoSem.ClaimSeven
namespace Go.Proofs.YtppnjkfeefmohaaDoor
namespace Rows

/-- THE TIED CARD OF 'laws.FnSort'. -/
def fnSortCard : Claim7 := { stood := { row := fnSortRow, standIns := [], harness := (true, "df67f3eced06ba2b4b9dbe56352b67f0a684cad577d5f5a042474d503fb4e3c1"), looks := false }, kinds := [], alts := [], laidByText := true, laidKinds := [.data], laidTests := true, laidLooks := .later }
def FnSortCardSaid : Prop := Claim7.holds Tryd.pinned (.plain (OpenSpec.ofChange fnSortSpec)) fnSortCard

/-- THE TIED CARD OF 'laws.FnSortVersions'. -/
def fnSortVersionsCard : Claim7 := { stood := { row := fnSortVersionsRow, standIns := [], harness := (true, "df67f3eced06ba2b4b9dbe56352b67f0a684cad577d5f5a042474d503fb4e3c1"), looks := false }, kinds := [], alts := [], laidByText := true, laidKinds := [.data], laidTests := true, laidLooks := .later }
def FnSortVersionsCardSaid : Prop := Claim7.holds Tryd.pinned (.plain (OpenSpec.ofChange fnSortVersionsSpec)) fnSortVersionsCard

/-- THE SECOND FORM's CARD OF 'laws.FnSort'. -/
def fnSortUptoCard : Claim7 := { stood := { row := fnSortUptoRow, standIns := [], harness := (true, "df67f3eced06ba2b4b9dbe56352b67f0a684cad577d5f5a042474d503fb4e3c1"), looks := false }, kinds := [], alts := [], laidByText := true, laidKinds := [.data], laidTests := true, laidLooks := .later }
def FnSortUptoCardSaid : Prop := Claim7.holds Tryd.pinned (.plain (OpenSpec.upto fnSortSpec)) fnSortUptoCard

/-- THE SECOND FORM's CARD OF 'laws.FnSortVersions'. -/
def fnSortVersionsUptoCard : Claim7 := { stood := { row := fnSortVersionsUptoRow, standIns := [], harness := (true, "df67f3eced06ba2b4b9dbe56352b67f0a684cad577d5f5a042474d503fb4e3c1"), looks := false }, kinds := [], alts := [], laidByText := true, laidKinds := [.data], laidTests := true, laidLooks := .later }
def FnSortVersionsUptoCardSaid : Prop := Claim7.holds Tryd.pinned (.plain (OpenSpec.upto fnSortVersionsSpec)) fnSortVersionsUptoCard
end Rows
end Go.Proofs.YtppnjkfeefmohaaDoor
