/-
  NARROWER THAN 'FOR EVERY INPUT', by the rows' own cells (each row's printed sentence says how): FnSort: laid · FnSortVersions: laid.
  DERIVED. THE GIVEN ROWS OF THIS SEAT. 2 by the template 'for every input the law returns true; each argument reads behind the call as it read before'; 0 by the template 'total and deterministic' (their statements: YtppnjkfeefmohaaDoorTotals.lean).
  GIVEN WITH THE SEED: the statements are not yours to turn. If you find one false, say at which input.
  Laid BY PROGRAM, IN A SANDBOX (cutbox-rows.mjs): the forced cells as the released guide's own fill.sh prints them over the translation d9ee5252e1316028… (all of the seat's roots in one cut). By AI agents, Wed Nov 11 2026. No macro, syntax, notation, axiom, sorry.
-/
import Derived.Test.YtppnjkfeefmohaaDoorChecked
import GoSem.Claim
import GoSem.ClaimJoined
import GoSem.ClaimMapViews
import Derived.JoinedTies
import Derived.KernelRfl
namespace Go.Proofs.YtppnjkfeefmohaaDoor
/- THE CELL 'sum', in the pinned program and in every row, IS THE sha256 OF THE DUMP (.gsa) THAT YtppnjkfeefmohaaDoorProg.lean LOADS. Nothing in Lean hashes anything: it is a label: what it is worth is what the hold of that sum in a sandbox is worth. -/
noncomputable def Tryd.pinned : Pinned := { name := "ytppnjkfeefmohaadoor", sum := "d9ee5252e1316028115a59fb5dec423a1f049b44cdd4e5b31183ec4c564abc42", checked := Tryd.checked }
namespace Rows
def none {H : Type} : Left H := { results := [], args := [] }

/- WHAT THE LISTED PACKAGE-LEVEL VARIABLES READ AS WHEN THE CALL BEGINS. Each datum BY PROGRAM (the guide's laid-datum.mjs) off the statement by which the dump's own 'gosem.cut.vars' lays the variable. In a bare row this is a premise. The card (YtppnjkfeefmohaaDoorCards.lean) ties it to the program's text. -/
def laid_loop_example_pub_g03259_pub_module_badWindowsNames {H : Type} : DataW H := .agg [.lit (.string [67, 79, 78]), .lit (.string [80, 82, 78]), .lit (.string [65, 85, 88]), .lit (.string [78, 85, 76]), .lit (.string [67, 79, 77, 49]), .lit (.string [67, 79, 77, 50]), .lit (.string [67, 79, 77, 51]), .lit (.string [67, 79, 77, 52]), .lit (.string [67, 79, 77, 53]), .lit (.string [67, 79, 77, 54]), .lit (.string [67, 79, 77, 55]), .lit (.string [67, 79, 77, 56]), .lit (.string [67, 79, 77, 57]), .lit (.string [76, 80, 84, 49]), .lit (.string [76, 80, 84, 50]), .lit (.string [76, 80, 84, 51]), .lit (.string [76, 80, 84, 52]), .lit (.string [76, 80, 84, 53]), .lit (.string [76, 80, 84, 54]), .lit (.string [76, 80, 84, 55]), .lit (.string [76, 80, 84, 56]), .lit (.string [76, 80, 84, 57])]

/-- 'laws.FnSort': WHATEVER THE INPUT: true; the input reads as it did. -/
def fnSortSpec : ChangeSpec := { name := "fnSort", vars := ["loop.example/pub-g03259/pub/module.badWindowsNames"], fn := fun _ => fun
  | [d, g1] => { results := [.lit (.bool true)], args := [d], vars := [g1] }
  | _ => none }
def fnSortRow : OpenClaim := { program := "ytppnjkfeefmohaadoor", sum := "d9ee5252e1316028115a59fb5dec423a1f049b44cdd4e5b31183ec4c564abc42", func := "loop.example/pub-g03259/laws.FnSort", spec := "fnSort", inPlace := ["internal/bytealg.abigen_runtime_cmpstring"], unfollowed := true, recurses := true, named := ["unicode/utf8.first", "unicode/utf8.acceptRanges", "loop.example/pub-g03259/pub/module.badWindowsNames", "unicode.properties", "unicode.Letter", "unicode.asciiFold", "unicode.caseOrbit", "unicode.CaseRanges"], apart := false, laid := [("loop.example/pub-g03259/pub/module.badWindowsNames", laid_loop_example_pub_g03259_pub_module_badWindowsNames)] }
def FnSortSaid : Prop := fnSortRow.holds Tryd.pinned (OpenSpec.ofChange fnSortSpec)

/-- ITS FALSE NEIGHBOUR: 'it returns false'. Refute it at one input. -/
def fnSortWrong : ChangeSpec := { name := "fnSort", vars := ["loop.example/pub-g03259/pub/module.badWindowsNames"], fn := fun _ => fun
  | [d, g1] => { results := [.lit (.bool false)], args := [d], vars := [g1] }
  | _ => none }
def FnSortWrongFalsely : Prop := fnSortRow.holds Tryd.pinned (OpenSpec.ofChange fnSortWrong)

/-- 'laws.FnSortVersions': WHATEVER THE INPUT: true; the input reads as it did. -/
def fnSortVersionsSpec : ChangeSpec := { name := "fnSortVersions", vars := ["loop.example/pub-g03259/pub/module.badWindowsNames"], fn := fun _ => fun
  | [d, g1] => { results := [.lit (.bool true)], args := [d], vars := [g1] }
  | _ => none }
def fnSortVersionsRow : OpenClaim := { program := "ytppnjkfeefmohaadoor", sum := "d9ee5252e1316028115a59fb5dec423a1f049b44cdd4e5b31183ec4c564abc42", func := "loop.example/pub-g03259/laws.FnSortVersions", spec := "fnSortVersions", inPlace := ["internal/bytealg.abigen_runtime_cmpstring"], unfollowed := true, recurses := true, named := ["unicode/utf8.first", "unicode/utf8.acceptRanges", "loop.example/pub-g03259/pub/module.badWindowsNames", "unicode.properties", "unicode.Letter", "unicode.asciiFold", "unicode.caseOrbit", "unicode.CaseRanges"], apart := false, laid := [("loop.example/pub-g03259/pub/module.badWindowsNames", laid_loop_example_pub_g03259_pub_module_badWindowsNames)] }
def FnSortVersionsSaid : Prop := fnSortVersionsRow.holds Tryd.pinned (OpenSpec.ofChange fnSortVersionsSpec)

/-- ITS FALSE NEIGHBOUR: 'it returns false'. Refute it at one input. -/
def fnSortVersionsWrong : ChangeSpec := { name := "fnSortVersions", vars := ["loop.example/pub-g03259/pub/module.badWindowsNames"], fn := fun _ => fun
  | [d, g1] => { results := [.lit (.bool false)], args := [d], vars := [g1] }
  | _ => none }
def FnSortVersionsWrongFalsely : Prop := fnSortVersionsRow.holds Tryd.pinned (OpenSpec.ofChange fnSortVersionsWrong)

/- THE SECOND FORM. 'bulk': how many values and letters a reading holds, each counted each time it is reached (what is shared counts as often as it is met; a slice's spare places count too). A statement '..UptoSaid' is the law's where the arguments, and the package variables that the reading takes, are together of bulk at most 1048576: NARROWER than '..Said'. Prove '..Said' where nothing that the law and all that it calls make is longer than what came in: it says more and counts as full. Else prove '..UptoSaid'. A law counts once. -/
mutual
def uptoBulk {H : Type} : DataW H → Nat
  | .lit (.string bytes) => bytes.length + 1
  | .lit _ => 1
  | .nil => 1
  | .ptr d => uptoBulk d + 1
  | .slice elems spare => uptoBulkAll elems + uptoBulkAll spare + 1
  | .agg parts => uptoBulkAll parts + 1
  | .iface _ d => uptoBulk d + 1
  | .map entries => uptoBulkEntries entries + 1
  | .held _ => 1
def uptoBulkAll {H : Type} : List (DataW H) → Nat
  | [] => 0
  | d :: r => uptoBulk d + uptoBulkAll r
def uptoBulkEntries {H : Type} : List (Lit × DataW H) → Nat
  | [] => 0
  | x :: r => uptoBulkEntry x + uptoBulkEntries r
def uptoBulkEntry {H : Type} : Lit × DataW H → Nat
  | (.string bytes, d) => bytes.length + uptoBulk d + 1
  | (_, d) => uptoBulk d + 1
 end
def uptoSmall : (H : Type) → List (DataW H) → Bool := fun _ ds => decide (uptoBulkAll ds ≤ 1048576)
def OpenSpec.upto (s : _root_.Go.ChangeSpec) : _root_.Go.OpenSpec := { _root_.Go.OpenSpec.ofChange s with cond := some uptoSmall }

/-- 'laws.FnSort', WHERE WHAT IT READS IS OF BULK AT MOST 1048576: true; the input reads as it did. -/
def fnSortUptoRow : OpenClaim := { program := "ytppnjkfeefmohaadoor", sum := "d9ee5252e1316028115a59fb5dec423a1f049b44cdd4e5b31183ec4c564abc42", func := "loop.example/pub-g03259/laws.FnSort", spec := "fnSort", inPlace := ["internal/bytealg.abigen_runtime_cmpstring"], unfollowed := true, recurses := true, named := ["unicode/utf8.first", "unicode/utf8.acceptRanges", "loop.example/pub-g03259/pub/module.badWindowsNames", "unicode.properties", "unicode.Letter", "unicode.asciiFold", "unicode.caseOrbit", "unicode.CaseRanges"], apart := false, laid := [("loop.example/pub-g03259/pub/module.badWindowsNames", laid_loop_example_pub_g03259_pub_module_badWindowsNames)], narrowed := true }
def FnSortUptoSaid : Prop := fnSortUptoRow.holds Tryd.pinned (OpenSpec.upto fnSortSpec)

/-- 'laws.FnSortVersions', WHERE WHAT IT READS IS OF BULK AT MOST 1048576: true; the input reads as it did. -/
def fnSortVersionsUptoRow : OpenClaim := { program := "ytppnjkfeefmohaadoor", sum := "d9ee5252e1316028115a59fb5dec423a1f049b44cdd4e5b31183ec4c564abc42", func := "loop.example/pub-g03259/laws.FnSortVersions", spec := "fnSortVersions", inPlace := ["internal/bytealg.abigen_runtime_cmpstring"], unfollowed := true, recurses := true, named := ["unicode/utf8.first", "unicode/utf8.acceptRanges", "loop.example/pub-g03259/pub/module.badWindowsNames", "unicode.properties", "unicode.Letter", "unicode.asciiFold", "unicode.caseOrbit", "unicode.CaseRanges"], apart := false, laid := [("loop.example/pub-g03259/pub/module.badWindowsNames", laid_loop_example_pub_g03259_pub_module_badWindowsNames)], narrowed := true }
def FnSortVersionsUptoSaid : Prop := fnSortVersionsUptoRow.holds Tryd.pinned (OpenSpec.upto fnSortVersionsSpec)

end Rows
end Go.Proofs.YtppnjkfeefmohaaDoor
