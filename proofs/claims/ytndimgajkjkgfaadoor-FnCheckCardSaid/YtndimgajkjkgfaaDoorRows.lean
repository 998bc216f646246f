/-
  NARROWER THAN 'FOR EVERY INPUT', by the rows' own cells (each row's printed sentence says how): FnEscapeBack: laid · FnCheckPath: laid · FnFile: laid · FnImport: laid · FnNarrower: laid · FnEscape: laid · FnUnescape: laid · FnUnescapeVersion: laid · FnCheck: laid · FnEscapeVersion: laid.
  DERIVED. THE GIVEN ROWS OF THIS SEAT. 10 by the template 'for every input the law returns true; each argument reads behind the call as it read before'; 0 by the template 'total and deterministic' (their statements: YtndimgajkjkgfaaDoorTotals.lean).
  GIVEN WITH THE SEED: the statements are not yours to turn. If you find one false, say at which input.
  Laid BY PROGRAM, IN A SANDBOX (cutbox-rows.mjs): the forced cells as the released guide's own fill.sh prints them over the translation 960ff9f77348e3ba… (all of the seat's roots in one cut). By AI agents, Wed Nov 11 2026. No macro, syntax, notation, axiom, sorry.
-/
import Derived.Test.YtndimgajkjkgfaaDoorChecked
import GoSem.Claim
import GoSem.ClaimJoined
import GoSem.ClaimMapViews
import Derived.JoinedTies
import Derived.KernelRfl
namespace Go.Proofs.YtndimgajkjkgfaaDoor
/- THE CELL 'sum', in the pinned program and in every row, IS THE sha256 OF THE DUMP (.gsa) THAT YtndimgajkjkgfaaDoorProg.lean LOADS. Nothing in Lean hashes anything: it is a label: what it is worth is what the hold of that sum in a sandbox is worth. -/
noncomputable def Tryd.pinned : Pinned := { name := "ytndimgajkjkgfaadoor", sum := "960ff9f77348e3ba93dc6bcd70f4bac4572d52047b393d5da1bc4ab688a128af", checked := Tryd.checked }
namespace Rows
def none {H : Type} : Left H := { results := [], args := [] }

/- WHAT THE LISTED PACKAGE-LEVEL VARIABLES READ AS WHEN THE CALL BEGINS. Each datum BY PROGRAM (the guide's laid-datum.mjs) off the statement by which the dump's own 'gosem.cut.vars' lays the variable. In a bare row this is a premise. The card (YtndimgajkjkgfaaDoorCards.lean) ties it to the program's text. -/
def laid_loop_example_pub_g03259_pub_module_badWindowsNames {H : Type} : DataW H := .agg [.lit (.string [67, 79, 78]), .lit (.string [80, 82, 78]), .lit (.string [65, 85, 88]), .lit (.string [78, 85, 76]), .lit (.string [67, 79, 77, 49]), .lit (.string [67, 79, 77, 50]), .lit (.string [67, 79, 77, 51]), .lit (.string [67, 79, 77, 52]), .lit (.string [67, 79, 77, 53]), .lit (.string [67, 79, 77, 54]), .lit (.string [67, 79, 77, 55]), .lit (.string [67, 79, 77, 56]), .lit (.string [67, 79, 77, 57]), .lit (.string [76, 80, 84, 49]), .lit (.string [76, 80, 84, 50]), .lit (.string [76, 80, 84, 51]), .lit (.string [76, 80, 84, 52]), .lit (.string [76, 80, 84, 53]), .lit (.string [76, 80, 84, 54]), .lit (.string [76, 80, 84, 55]), .lit (.string [76, 80, 84, 56]), .lit (.string [76, 80, 84, 57])]

/-- 'laws.FnEscapeBack': WHATEVER THE INPUT: true; the input reads as it did. -/
def fnEscapeBackSpec : ChangeSpec := { name := "fnEscapeBack", vars := ["loop.example/pub-g03259/pub/module.badWindowsNames"], fn := fun _ => fun
  | [d, g1] => { results := [.lit (.bool true)], args := [d], vars := [g1] }
  | _ => none }
def fnEscapeBackRow : OpenClaim := { program := "ytndimgajkjkgfaadoor", sum := "960ff9f77348e3ba93dc6bcd70f4bac4572d52047b393d5da1bc4ab688a128af", func := "loop.example/pub-g03259/laws.FnEscapeBack", spec := "fnEscapeBack", unfollowed := true, recurses := true, named := ["unicode/utf8.first", "unicode/utf8.acceptRanges", "loop.example/pub-g03259/pub/module.badWindowsNames", "unicode.properties", "unicode.Letter", "unicode.asciiFold", "unicode.caseOrbit", "unicode.CaseRanges"], apart := false, laid := [("loop.example/pub-g03259/pub/module.badWindowsNames", laid_loop_example_pub_g03259_pub_module_badWindowsNames)] }
def FnEscapeBackSaid : Prop := fnEscapeBackRow.holds Tryd.pinned (OpenSpec.ofChange fnEscapeBackSpec)

/-- ITS FALSE NEIGHBOUR: 'it returns false'. Refute it at one input. -/
def fnEscapeBackWrong : ChangeSpec := { name := "fnEscapeBack", vars := ["loop.example/pub-g03259/pub/module.badWindowsNames"], fn := fun _ => fun
  | [d, g1] => { results := [.lit (.bool false)], args := [d], vars := [g1] }
  | _ => none }
def FnEscapeBackWrongFalsely : Prop := fnEscapeBackRow.holds Tryd.pinned (OpenSpec.ofChange fnEscapeBackWrong)

/-- 'laws.FnCheckPath': WHATEVER THE INPUT: true; the input reads as it did. -/
def fnCheckPathSpec : ChangeSpec := { name := "fnCheckPath", vars := ["loop.example/pub-g03259/pub/module.badWindowsNames"], fn := fun _ => fun
  | [d, g1] => { results := [.lit (.bool true)], args := [d], vars := [g1] }
  | _ => none }
def fnCheckPathRow : OpenClaim := { program := "ytndimgajkjkgfaadoor", sum := "960ff9f77348e3ba93dc6bcd70f4bac4572d52047b393d5da1bc4ab688a128af", func := "loop.example/pub-g03259/laws.FnCheckPath", spec := "fnCheckPath", unfollowed := true, recurses := true, named := ["unicode/utf8.first", "unicode/utf8.acceptRanges", "loop.example/pub-g03259/pub/module.badWindowsNames", "unicode.properties", "unicode.Letter", "unicode.asciiFold", "unicode.caseOrbit", "unicode.CaseRanges"], apart := false, laid := [("loop.example/pub-g03259/pub/module.badWindowsNames", laid_loop_example_pub_g03259_pub_module_badWindowsNames)] }
def FnCheckPathSaid : Prop := fnCheckPathRow.holds Tryd.pinned (OpenSpec.ofChange fnCheckPathSpec)

/-- ITS FALSE NEIGHBOUR: 'it returns false'. Refute it at one input. -/
def fnCheckPathWrong : ChangeSpec := { name := "fnCheckPath", vars := ["loop.example/pub-g03259/pub/module.badWindowsNames"], fn := fun _ => fun
  | [d, g1] => { results := [.lit (.bool false)], args := [d], vars := [g1] }
  | _ => none }
def FnCheckPathWrongFalsely : Prop := fnCheckPathRow.holds Tryd.pinned (OpenSpec.ofChange fnCheckPathWrong)

/-- 'laws.FnFile': WHATEVER THE INPUT: true; the input reads as it did. -/
def fnFileSpec : ChangeSpec := { name := "fnFile", vars := ["loop.example/pub-g03259/pub/module.badWindowsNames"], fn := fun _ => fun
  | [d, g1] => { results := [.lit (.bool true)], args := [d], vars := [g1] }
  | _ => none }
def fnFileRow : OpenClaim := { program := "ytndimgajkjkgfaadoor", sum := "960ff9f77348e3ba93dc6bcd70f4bac4572d52047b393d5da1bc4ab688a128af", func := "loop.example/pub-g03259/laws.FnFile", spec := "fnFile", unfollowed := true, recurses := true, named := ["unicode/utf8.first", "unicode/utf8.acceptRanges", "loop.example/pub-g03259/pub/module.badWindowsNames", "unicode.properties", "unicode.Letter", "unicode.asciiFold", "unicode.caseOrbit", "unicode.CaseRanges"], apart := false, laid := [("loop.example/pub-g03259/pub/module.badWindowsNames", laid_loop_example_pub_g03259_pub_module_badWindowsNames)] }
def FnFileSaid : Prop := fnFileRow.holds Tryd.pinned (OpenSpec.ofChange fnFileSpec)

/-- ITS FALSE NEIGHBOUR: 'it returns false'. Refute it at one input. -/
def fnFileWrong : ChangeSpec := { name := "fnFile", vars := ["loop.example/pub-g03259/pub/module.badWindowsNames"], fn := fun _ => fun
  | [d, g1] => { results := [.lit (.bool false)], args := [d], vars := [g1] }
  | _ => none }
def FnFileWrongFalsely : Prop := fnFileRow.holds Tryd.pinned (OpenSpec.ofChange fnFileWrong)

/-- 'laws.FnImport': WHATEVER THE INPUT: true; the input reads as it did. -/
def fnImportSpec : ChangeSpec := { name := "fnImport", vars := ["loop.example/pub-g03259/pub/module.badWindowsNames"], fn := fun _ => fun
  | [d, g1] => { results := [.lit (.bool true)], args := [d], vars := [g1] }
  | _ => none }
def fnImportRow : OpenClaim := { program := "ytndimgajkjkgfaadoor", sum := "960ff9f77348e3ba93dc6bcd70f4bac4572d52047b393d5da1bc4ab688a128af", func := "loop.example/pub-g03259/laws.FnImport", spec := "fnImport", unfollowed := true, recurses := true, named := ["unicode/utf8.first", "unicode/utf8.acceptRanges", "loop.example/pub-g03259/pub/module.badWindowsNames", "unicode.properties", "unicode.Letter", "unicode.asciiFold", "unicode.caseOrbit", "unicode.CaseRanges"], apart := false, laid := [("loop.example/pub-g03259/pub/module.badWindowsNames", laid_loop_example_pub_g03259_pub_module_badWindowsNames)] }
def FnImportSaid : Prop := fnImportRow.holds Tryd.pinned (OpenSpec.ofChange fnImportSpec)

/-- ITS FALSE NEIGHBOUR: 'it returns false'. Refute it at one input. -/
def fnImportWrong : ChangeSpec := { name := "fnImport", vars := ["loop.example/pub-g03259/pub/module.badWindowsNames"], fn := fun _ => fun
  | [d, g1] => { results := [.lit (.bool false)], args := [d], vars := [g1] }
  | _ => none }
def FnImportWrongFalsely : Prop := fnImportRow.holds Tryd.pinned (OpenSpec.ofChange fnImportWrong)

/-- 'laws.FnNarrower': WHATEVER THE INPUT: true; the input reads as it did. -/
def fnNarrowerSpec : ChangeSpec := { name := "fnNarrower", vars := ["loop.example/pub-g03259/pub/module.badWindowsNames"], fn := fun _ => fun
  | [d, g1] => { results := [.lit (.bool true)], args := [d], vars := [g1] }
  | _ => none }
def fnNarrowerRow : OpenClaim := { program := "ytndimgajkjkgfaadoor", sum := "960ff9f77348e3ba93dc6bcd70f4bac4572d52047b393d5da1bc4ab688a128af", func := "loop.example/pub-g03259/laws.FnNarrower", spec := "fnNarrower", unfollowed := true, recurses := true, named := ["unicode/utf8.first", "unicode/utf8.acceptRanges", "loop.example/pub-g03259/pub/module.badWindowsNames", "unicode.properties", "unicode.Letter", "unicode.asciiFold", "unicode.caseOrbit", "unicode.CaseRanges"], apart := false, laid := [("loop.example/pub-g03259/pub/module.badWindowsNames", laid_loop_example_pub_g03259_pub_module_badWindowsNames)] }
def FnNarrowerSaid : Prop := fnNarrowerRow.holds Tryd.pinned (OpenSpec.ofChange fnNarrowerSpec)

/-- ITS FALSE NEIGHBOUR: 'it returns false'. Refute it at one input. -/
def fnNarrowerWrong : ChangeSpec := { name := "fnNarrower", vars := ["loop.example/pub-g03259/pub/module.badWindowsNames"], fn := fun _ => fun
  | [d, g1] => { results := [.lit (.bool false)], args := [d], vars := [g1] }
  | _ => none }
def FnNarrowerWrongFalsely : Prop := fnNarrowerRow.holds Tryd.pinned (OpenSpec.ofChange fnNarrowerWrong)

/-- 'laws.FnEscape': WHATEVER THE INPUT: true; the input reads as it did. -/
def fnEscapeSpec : ChangeSpec := { name := "fnEscape", vars := ["loop.example/pub-g03259/pub/module.badWindowsNames"], fn := fun _ => fun
  | [d, g1] => { results := [.lit (.bool true)], args := [d], vars := [g1] }
  | _ => none }
def fnEscapeRow : OpenClaim := { program := "ytndimgajkjkgfaadoor", sum := "960ff9f77348e3ba93dc6bcd70f4bac4572d52047b393d5da1bc4ab688a128af", func := "loop.example/pub-g03259/laws.FnEscape", spec := "fnEscape", unfollowed := true, recurses := true, named := ["unicode/utf8.first", "unicode/utf8.acceptRanges", "loop.example/pub-g03259/pub/module.badWindowsNames", "unicode.properties", "unicode.Letter", "unicode.asciiFold", "unicode.caseOrbit", "unicode.CaseRanges"], apart := false, laid := [("loop.example/pub-g03259/pub/module.badWindowsNames", laid_loop_example_pub_g03259_pub_module_badWindowsNames)] }
def FnEscapeSaid : Prop := fnEscapeRow.holds Tryd.pinned (OpenSpec.ofChange fnEscapeSpec)

/-- ITS FALSE NEIGHBOUR: 'it returns false'. Refute it at one input. -/
def fnEscapeWrong : ChangeSpec := { name := "fnEscape", vars := ["loop.example/pub-g03259/pub/module.badWindowsNames"], fn := fun _ => fun
  | [d, g1] => { results := [.lit (.bool false)], args := [d], vars := [g1] }
  | _ => none }
def FnEscapeWrongFalsely : Prop := fnEscapeRow.holds Tryd.pinned (OpenSpec.ofChange fnEscapeWrong)

/-- 'laws.FnUnescape': WHATEVER THE INPUT: true; the input reads as it did. -/
def fnUnescapeSpec : ChangeSpec := { name := "fnUnescape", vars := ["loop.example/pub-g03259/pub/module.badWindowsNames"], fn := fun _ => fun
  | [d, g1] => { results := [.lit (.bool true)], args := [d], vars := [g1] }
  | _ => none }
def fnUnescapeRow : OpenClaim := { program := "ytndimgajkjkgfaadoor", sum := "960ff9f77348e3ba93dc6bcd70f4bac4572d52047b393d5da1bc4ab688a128af", func := "loop.example/pub-g03259/laws.FnUnescape", spec := "fnUnescape", unfollowed := true, recurses := true, named := ["unicode/utf8.first", "unicode/utf8.acceptRanges", "loop.example/pub-g03259/pub/module.badWindowsNames", "unicode.properties", "unicode.Letter", "unicode.asciiFold", "unicode.caseOrbit", "unicode.CaseRanges"], apart := false, laid := [("loop.example/pub-g03259/pub/module.badWindowsNames", laid_loop_example_pub_g03259_pub_module_badWindowsNames)] }
def FnUnescapeSaid : Prop := fnUnescapeRow.holds Tryd.pinned (OpenSpec.ofChange fnUnescapeSpec)

/-- ITS FALSE NEIGHBOUR: 'it returns false'. Refute it at one input. -/
def fnUnescapeWrong : ChangeSpec := { name := "fnUnescape", vars := ["loop.example/pub-g03259/pub/module.badWindowsNames"], fn := fun _ => fun
  | [d, g1] => { results := [.lit (.bool false)], args := [d], vars := [g1] }
  | _ => none }
def FnUnescapeWrongFalsely : Prop := fnUnescapeRow.holds Tryd.pinned (OpenSpec.ofChange fnUnescapeWrong)

/-- 'laws.FnUnescapeVersion': WHATEVER THE INPUT: true; the input reads as it did. -/
def fnUnescapeVersionSpec : ChangeSpec := { name := "fnUnescapeVersion", vars := ["loop.example/pub-g03259/pub/module.badWindowsNames"], fn := fun _ => fun
  | [d, g1] => { results := [.lit (.bool true)], args := [d], vars := [g1] }
  | _ => none }
def fnUnescapeVersionRow : OpenClaim := { program := "ytndimgajkjkgfaadoor", sum := "960ff9f77348e3ba93dc6bcd70f4bac4572d52047b393d5da1bc4ab688a128af", func := "loop.example/pub-g03259/laws.FnUnescapeVersion", spec := "fnUnescapeVersion", unfollowed := true, recurses := true, named := ["loop.example/pub-g03259/pub/module.badWindowsNames", "unicode.properties", "unicode.Letter", "unicode/utf8.first", "unicode/utf8.acceptRanges", "unicode.asciiFold", "unicode.caseOrbit", "unicode.CaseRanges"], apart := false, laid := [("loop.example/pub-g03259/pub/module.badWindowsNames", laid_loop_example_pub_g03259_pub_module_badWindowsNames)] }
def FnUnescapeVersionSaid : Prop := fnUnescapeVersionRow.holds Tryd.pinned (OpenSpec.ofChange fnUnescapeVersionSpec)

/-- ITS FALSE NEIGHBOUR: 'it returns false'. Refute it at one input. -/
def fnUnescapeVersionWrong : ChangeSpec := { name := "fnUnescapeVersion", vars := ["loop.example/pub-g03259/pub/module.badWindowsNames"], fn := fun _ => fun
  | [d, g1] => { results := [.lit (.bool false)], args := [d], vars := [g1] }
  | _ => none }
def FnUnescapeVersionWrongFalsely : Prop := fnUnescapeVersionRow.holds Tryd.pinned (OpenSpec.ofChange fnUnescapeVersionWrong)

/-- 'laws.FnCheck': WHATEVER THE INPUT: true; the input reads as it did. -/
def fnCheckSpec : ChangeSpec := { name := "fnCheck", vars := ["loop.example/pub-g03259/pub/module.badWindowsNames"], fn := fun _ => fun
  | [d1, d2, g1] => { results := [.lit (.bool true)], args := [d1, d2], vars := [g1] }
  | _ => none }
def fnCheckRow : OpenClaim := { program := "ytndimgajkjkgfaadoor", sum := "960ff9f77348e3ba93dc6bcd70f4bac4572d52047b393d5da1bc4ab688a128af", func := "loop.example/pub-g03259/laws.FnCheck", spec := "fnCheck", unfollowed := true, recurses := true, named := ["unicode/utf8.first", "unicode/utf8.acceptRanges", "loop.example/pub-g03259/pub/module.badWindowsNames", "unicode.properties", "unicode.Letter", "unicode.asciiFold", "unicode.caseOrbit", "unicode.CaseRanges"], apart := false, laid := [("loop.example/pub-g03259/pub/module.badWindowsNames", laid_loop_example_pub_g03259_pub_module_badWindowsNames)] }
def FnCheckSaid : Prop := fnCheckRow.holds Tryd.pinned (OpenSpec.ofChange fnCheckSpec)

/-- ITS FALSE NEIGHBOUR: 'it returns false'. Refute it at one input. -/
def fnCheckWrong : ChangeSpec := { name := "fnCheck", vars := ["loop.example/pub-g03259/pub/module.badWindowsNames"], fn := fun _ => fun
  | [d1, d2, g1] => { results := [.lit (.bool false)], args := [d1, d2], vars := [g1] }
  | _ => none }
def FnCheckWrongFalsely : Prop := fnCheckRow.holds Tryd.pinned (OpenSpec.ofChange fnCheckWrong)

/-- 'laws.FnEscapeVersion': WHATEVER THE INPUT: true; the input reads as it did. -/
def fnEscapeVersionSpec : ChangeSpec := { name := "fnEscapeVersion", vars := ["loop.example/pub-g03259/pub/module.badWindowsNames"], fn := fun _ => fun
  | [d, g1] => { results := [.lit (.bool true)], args := [d], vars := [g1] }
  | _ => none }
def fnEscapeVersionRow : OpenClaim := { program := "ytndimgajkjkgfaadoor", sum := "960ff9f77348e3ba93dc6bcd70f4bac4572d52047b393d5da1bc4ab688a128af", func := "loop.example/pub-g03259/laws.FnEscapeVersion", spec := "fnEscapeVersion", unfollowed := true, recurses := true, named := ["loop.example/pub-g03259/pub/module.badWindowsNames", "unicode.properties", "unicode.Letter", "unicode/utf8.first", "unicode/utf8.acceptRanges", "unicode.asciiFold", "unicode.caseOrbit", "unicode.CaseRanges"], apart := false, laid := [("loop.example/pub-g03259/pub/module.badWindowsNames", laid_loop_example_pub_g03259_pub_module_badWindowsNames)] }
def FnEscapeVersionSaid : Prop := fnEscapeVersionRow.holds Tryd.pinned (OpenSpec.ofChange fnEscapeVersionSpec)

/-- ITS FALSE NEIGHBOUR: 'it returns false'. Refute it at one input. -/
def fnEscapeVersionWrong : ChangeSpec := { name := "fnEscapeVersion", vars := ["loop.example/pub-g03259/pub/module.badWindowsNames"], fn := fun _ => fun
  | [d, g1] => { results := [.lit (.bool false)], args := [d], vars := [g1] }
  | _ => none }
def FnEscapeVersionWrongFalsely : Prop := fnEscapeVersionRow.holds Tryd.pinned (OpenSpec.ofChange fnEscapeVersionWrong)

/- THE SECOND FORM. 'bulk': how many values and letters a reading holds, each counted each time it is reached (what is shared counts as often as it is met; a slice's spare places count too). A statement '..UptoSaid' is the law's where the arguments, and the package variables that the reading takes, are together of bulk at most 1048576: NARROWER than '..Said'. Prove '..Said' where nothing that the law and all that it calls make is longer than what came in: it says more and counts as full. Else prove '..UptoSaid'. A law counts once. -/
mutual
def uptoBulk {H : Type} : DataW H → Nat
  | .lit (.string bytes) => bytes.length + 1
  | .lit _ => 1
  | .nil => 1
  | .ptr d => uptoBulk d + 1
  | .slice elems spare => uptoBulkAll elems + uptoBulkAll spare + 1
  | .agg parts => uptoBulkAll parts + 1
  | .iface _ d => uptoBulk d + 1
  | .map entries => uptoBulkEntries entries + 1
  | .held _ => 1
def uptoBulkAll {H : Type} : List (DataW H) → Nat
  | [] => 0
  | d :: r => uptoBulk d + uptoBulkAll r
def uptoBulkEntries {H : Type} : List (Lit × DataW H) → Nat
  | [] => 0
  | x :: r => uptoBulkEntry x + uptoBulkEntries r
def uptoBulkEntry {H : Type} : Lit × DataW H → Nat
  | (.string bytes, d) => bytes.length + uptoBulk d + 1
  | (_, d) => uptoBulk d + 1
 end
def uptoSmall : (H : Type) → List (DataW H) → Bool := fun _ ds => decide (uptoBulkAll ds ≤ 1048576)
def OpenSpec.upto (s : _root_.Go.ChangeSpec) : _root_.Go.OpenSpec := { _root_.Go.OpenSpec.ofChange s with cond := some uptoSmall }

/-- 'laws.FnEscapeBack', WHERE WHAT IT READS IS OF BULK AT MOST 1048576: true; the input reads as it did. -/
def fnEscapeBackUptoRow : OpenClaim := { program := "ytndimgajkjkgfaadoor", sum := "960ff9f77348e3ba93dc6bcd70f4bac4572d52047b393d5da1bc4ab688a128af", func := "loop.example/pub-g03259/laws.FnEscapeBack", spec := "fnEscapeBack", unfollowed := true, recurses := true, named := ["unicode/utf8.first", "unicode/utf8.acceptRanges", "loop.example/pub-g03259/pub/module.badWindowsNames", "unicode.properties", "unicode.Letter", "unicode.asciiFold", "unicode.caseOrbit", "unicode.CaseRanges"], apart := false, laid := [("loop.example/pub-g03259/pub/module.badWindowsNames", laid_loop_example_pub_g03259_pub_module_badWindowsNames)], narrowed := true }
def FnEscapeBackUptoSaid : Prop := fnEscapeBackUptoRow.holds Tryd.pinned (OpenSpec.upto fnEscapeBackSpec)

/-- 'laws.FnCheckPath', WHERE WHAT IT READS IS OF BULK AT MOST 1048576: true; the input reads as it did. -/
def fnCheckPathUptoRow : OpenClaim := { program := "ytndimgajkjkgfaadoor", sum := "960ff9f77348e3ba93dc6bcd70f4bac4572d52047b393d5da1bc4ab688a128af", func := "loop.example/pub-g03259/laws.FnCheckPath", spec := "fnCheckPath", unfollowed := true, recurses := true, named := ["unicode/utf8.first", "unicode/utf8.acceptRanges", "loop.example/pub-g03259/pub/module.badWindowsNames", "unicode.properties", "unicode.Letter", "unicode.asciiFold", "unicode.caseOrbit", "unicode.CaseRanges"], apart := false, laid := [("loop.example/pub-g03259/pub/module.badWindowsNames", laid_loop_example_pub_g03259_pub_module_badWindowsNames)], narrowed := true }
def FnCheckPathUptoSaid : Prop := fnCheckPathUptoRow.holds Tryd.pinned (OpenSpec.upto fnCheckPathSpec)

/-- 'laws.FnFile', WHERE WHAT IT READS IS OF BULK AT MOST 1048576: true; the input reads as it did. -/
def fnFileUptoRow : OpenClaim := { program := "ytndimgajkjkgfaadoor", sum := "960ff9f77348e3ba93dc6bcd70f4bac4572d52047b393d5da1bc4ab688a128af", func := "loop.example/pub-g03259/laws.FnFile", spec := "fnFile", unfollowed := true, recurses := true, named := ["unicode/utf8.first", "unicode/utf8.acceptRanges", "loop.example/pub-g03259/pub/module.badWindowsNames", "unicode.properties", "unicode.Letter", "unicode.asciiFold", "unicode.caseOrbit", "unicode.CaseRanges"], apart := false, laid := [("loop.example/pub-g03259/pub/module.badWindowsNames", laid_loop_example_pub_g03259_pub_module_badWindowsNames)], narrowed := true }
def FnFileUptoSaid : Prop := fnFileUptoRow.holds Tryd.pinned (OpenSpec.upto fnFileSpec)

/-- 'laws.FnImport', WHERE WHAT IT READS IS OF BULK AT MOST 1048576: true; the input reads as it did. -/
def fnImportUptoRow : OpenClaim := { program := "ytndimgajkjkgfaadoor", sum := "960ff9f77348e3ba93dc6bcd70f4bac4572d52047b393d5da1bc4ab688a128af", func := "loop.example/pub-g03259/laws.FnImport", spec := "fnImport", unfollowed := true, recurses := true, named := ["unicode/utf8.first", "unicode/utf8.acceptRanges", "loop.example/pub-g03259/pub/module.badWindowsNames", "unicode.properties", "unicode.Letter", "unicode.asciiFold", "unicode.caseOrbit", "unicode.CaseRanges"], apart := false, laid := [("loop.example/pub-g03259/pub/module.badWindowsNames", laid_loop_example_pub_g03259_pub_module_badWindowsNames)], narrowed := true }
def FnImportUptoSaid : Prop := fnImportUptoRow.holds Tryd.pinned (OpenSpec.upto fnImportSpec)

/-- 'laws.FnNarrower', WHERE WHAT IT READS IS OF BULK AT MOST 1048576: true; the input reads as it did. -/
def fnNarrowerUptoRow : OpenClaim := { program := "ytndimgajkjkgfaadoor", sum := "960ff9f77348e3ba93dc6bcd70f4bac4572d52047b393d5da1bc4ab688a128af", func := "loop.example/pub-g03259/laws.FnNarrower", spec := "fnNarrower", unfollowed := true, recurses := true, named := ["unicode/utf8.first", "unicode/utf8.acceptRanges", "loop.example/pub-g03259/pub/module.badWindowsNames", "unicode.properties", "unicode.Letter", "unicode.asciiFold", "unicode.caseOrbit", "unicode.CaseRanges"], apart := false, laid := [("loop.example/pub-g03259/pub/module.badWindowsNames", laid_loop_example_pub_g03259_pub_module_badWindowsNames)], narrowed := true }
def FnNarrowerUptoSaid : Prop := fnNarrowerUptoRow.holds Tryd.pinned (OpenSpec.upto fnNarrowerSpec)

/-- 'laws.FnEscape', WHERE WHAT IT READS IS OF BULK AT MOST 1048576: true; the input reads as it did. -/
def fnEscapeUptoRow : OpenClaim := { program := "ytndimgajkjkgfaadoor", sum := "960ff9f77348e3ba93dc6bcd70f4bac4572d52047b393d5da1bc4ab688a128af", func := "loop.example/pub-g03259/laws.FnEscape", spec := "fnEscape", unfollowed := true, recurses := true, named := ["unicode/utf8.first", "unicode/utf8.acceptRanges", "loop.example/pub-g03259/pub/module.badWindowsNames", "unicode.properties", "unicode.Letter", "unicode.asciiFold", "unicode.caseOrbit", "unicode.CaseRanges"], apart := false, laid := [("loop.example/pub-g03259/pub/module.badWindowsNames", laid_loop_example_pub_g03259_pub_module_badWindowsNames)], narrowed := true }
def FnEscapeUptoSaid : Prop := fnEscapeUptoRow.holds Tryd.pinned (OpenSpec.upto fnEscapeSpec)

/-- 'laws.FnUnescape', WHERE WHAT IT READS IS OF BULK AT MOST 1048576: true; the input reads as it did. -/
def fnUnescapeUptoRow : OpenClaim := { program := "ytndimgajkjkgfaadoor", sum := "960ff9f77348e3ba93dc6bcd70f4bac4572d52047b393d5da1bc4ab688a128af", func := "loop.example/pub-g03259/laws.FnUnescape", spec := "fnUnescape", unfollowed := true, recurses := true, named := ["unicode/utf8.first", "unicode/utf8.acceptRanges", "loop.example/pub-g03259/pub/module.badWindowsNames", "unicode.properties", "unicode.Letter", "unicode.asciiFold", "unicode.caseOrbit", "unicode.CaseRanges"], apart := false, laid := [("loop.example/pub-g03259/pub/module.badWindowsNames", laid_loop_example_pub_g03259_pub_module_badWindowsNames)], narrowed := true }
def FnUnescapeUptoSaid : Prop := fnUnescapeUptoRow.holds Tryd.pinned (OpenSpec.upto fnUnescapeSpec)

/-- 'laws.FnUnescapeVersion', WHERE WHAT IT READS IS OF BULK AT MOST 1048576: true; the input reads as it did. -/
def fnUnescapeVersionUptoRow : OpenClaim := { program := "ytndimgajkjkgfaadoor", sum := "960ff9f77348e3ba93dc6bcd70f4bac4572d52047b393d5da1bc4ab688a128af", func := "loop.example/pub-g03259/laws.FnUnescapeVersion", spec := "fnUnescapeVersion", unfollowed := true, recurses := true, named := ["loop.example/pub-g03259/pub/module.badWindowsNames", "unicode.properties", "unicode.Letter", "unicode/utf8.first", "unicode/utf8.acceptRanges", "unicode.asciiFold", "unicode.caseOrbit", "unicode.CaseRanges"], apart := false, laid := [("loop.example/pub-g03259/pub/module.badWindowsNames", laid_loop_example_pub_g03259_pub_module_badWindowsNames)], narrowed := true }
def FnUnescapeVersionUptoSaid : Prop := fnUnescapeVersionUptoRow.holds Tryd.pinned (OpenSpec.upto fnUnescapeVersionSpec)

/-- 'laws.FnCheck', WHERE WHAT IT READS IS OF BULK AT MOST 1048576: true; the input reads as it did. -/
def fnCheckUptoRow : OpenClaim := { program := "ytndimgajkjkgfaadoor", sum := "960ff9f77348e3ba93dc6bcd70f4bac4572d52047b393d5da1bc4ab688a128af", func := "loop.example/pub-g03259/laws.FnCheck", spec := "fnCheck", unfollowed := true, recurses := true, named := ["unicode/utf8.first", "unicode/utf8.acceptRanges", "loop.example/pub-g03259/pub/module.badWindowsNames", "unicode.properties", "unicode.Letter", "unicode.asciiFold", "unicode.caseOrbit", "unicode.CaseRanges"], apart := false, laid := [("loop.example/pub-g03259/pub/module.badWindowsNames", laid_loop_example_pub_g03259_pub_module_badWindowsNames)], narrowed := true }
def FnCheckUptoSaid : Prop := fnCheckUptoRow.holds Tryd.pinned (OpenSpec.upto fnCheckSpec)

/-- 'laws.FnEscapeVersion', WHERE WHAT IT READS IS OF BULK AT MOST 1048576: true; the input reads as it did. -/
def fnEscapeVersionUptoRow : OpenClaim := { program := "ytndimgajkjkgfaadoor", sum := "960ff9f77348e3ba93dc6bcd70f4bac4572d52047b393d5da1bc4ab688a128af", func := "loop.example/pub-g03259/laws.FnEscapeVersion", spec := "fnEscapeVersion", unfollowed := true, recurses := true, named := ["loop.example/pub-g03259/pub/module.badWindowsNames", "unicode.properties", "unicode.Letter", "unicode/utf8.first", "unicode/utf8.acceptRanges", "unicode.asciiFold", "unicode.caseOrbit", "unicode.CaseRanges"], apart := false, laid := [("loop.example/pub-g03259/pub/module.badWindowsNames", laid_loop_example_pub_g03259_pub_module_badWindowsNames)], narrowed := true }
def FnEscapeVersionUptoSaid : Prop := fnEscapeVersionUptoRow.holds Tryd.pinned (OpenSpec.upto fnEscapeVersionSpec)

end Rows
end Go.Proofs.YtndimgajkjkgfaaDoor
