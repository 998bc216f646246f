/-
  NARROWER THAN 'FOR EVERY INPUT', by the rows' own cells (each row's printed sentence says how): FnValid: laid · FnSplit: laid · FnCanonical: laid · FnMajorPrefix: laid · FnMajor: laid · FnCanonicalVersion: laid · FnMax: laid.
  DERIVED. THE GIVEN ROWS OF THIS SEAT. 7 by the template 'for every input the law returns true; each argument reads behind the call as it read before'; 0 by the template 'total and deterministic' (their statements: YtfpboapgfbehlaaDoorTotals.lean).
  GIVEN WITH THE SEED: the statements are not yours to turn. If you find one false, say at which input.
  Laid BY PROGRAM, IN A SANDBOX (cutbox-rows.mjs): the forced cells as the released guide's own fill.sh prints them over the translation 95c6553877b006c0… (all of the seat's roots in one cut). By AI agents, Wed Nov 11 2026. No macro, syntax, notation, axiom, sorry.
-/
import Derived.Test.YtfpboapgfbehlaaDoorChecked
import GoSem.Claim
import GoSem.ClaimJoined
import GoSem.ClaimMapViews
import Derived.JoinedTies
import Derived.KernelRfl
namespace Go.Proofs.YtfpboapgfbehlaaDoor
/- THE CELL 'sum', in the pinned program and in every row, IS THE sha256 OF THE DUMP (.gsa) THAT YtfpboapgfbehlaaDoorProg.lean LOADS. Nothing in Lean hashes anything: it is a label: what it is worth is what the hold of that sum in a sandbox is worth. -/
noncomputable def Tryd.pinned : Pinned := { name := "ytfpboapgfbehlaadoor", sum := "95c6553877b006c000b2adcbd82bc0ffd1a44afc35fda11e8ade8d626044366a", checked := Tryd.checked }
namespace Rows
def none {H : Type} : Left H := { results := [], args := [] }

/- WHAT THE LISTED PACKAGE-LEVEL VARIABLES READ AS WHEN THE CALL BEGINS. Each datum BY PROGRAM (the guide's laid-datum.mjs) off the statement by which the dump's own 'gosem.cut.vars' lays the variable. In a bare row this is a premise. The card (YtfpboapgfbehlaaDoorCards.lean) ties it to the program's text. -/
def laid_loop_example_pub_g03259_pub_module_badWindowsNames {H : Type} : DataW H := .agg [.lit (.string [67, 79, 78]), .lit (.string [80, 82, 78]), .lit (.string [65, 85, 88]), .lit (.string [78, 85, 76]), .lit (.string [67, 79, 77, 49]), .lit (.string [67, 79, 77, 50]), .lit (.string [67, 79, 77, 51]), .lit (.string [67, 79, 77, 52]), .lit (.string [67, 79, 77, 53]), .lit (.string [67, 79, 77, 54]), .lit (.string [67, 79, 77, 55]), .lit (.string [67, 79, 77, 56]), .lit (.string [67, 79, 77, 57]), .lit (.string [76, 80, 84, 49]), .lit (.string [76, 80, 84, 50]), .lit (.string [76, 80, 84, 51]), .lit (.string [76, 80, 84, 52]), .lit (.string [76, 80, 84, 53]), .lit (.string [76, 80, 84, 54]), .lit (.string [76, 80, 84, 55]), .lit (.string [76, 80, 84, 56]), .lit (.string [76, 80, 84, 57])]

/-- 'laws.FnValid': WHATEVER THE INPUT: true; the input reads as it did. -/
def fnValidSpec : ChangeSpec := { name := "fnValid", vars := ["loop.example/pub-g03259/pub/module.badWindowsNames"], fn := fun _ => fun
  | [d, g1] => { results := [.lit (.bool true)], args := [d], vars := [g1] }
  | _ => none }
def fnValidRow : OpenClaim := { program := "ytfpboapgfbehlaadoor", sum := "95c6553877b006c000b2adcbd82bc0ffd1a44afc35fda11e8ade8d626044366a", func := "loop.example/pub-g03259/laws.FnValid", spec := "fnValid", unfollowed := true, recurses := true, named := ["unicode/utf8.first", "unicode/utf8.acceptRanges", "loop.example/pub-g03259/pub/module.badWindowsNames", "unicode.properties", "unicode.Letter", "unicode.asciiFold", "unicode.caseOrbit", "unicode.CaseRanges"], apart := false, laid := [("loop.example/pub-g03259/pub/module.badWindowsNames", laid_loop_example_pub_g03259_pub_module_badWindowsNames)] }
def FnValidSaid : Prop := fnValidRow.holds Tryd.pinned (OpenSpec.ofChange fnValidSpec)

/-- ITS FALSE NEIGHBOUR: 'it returns false'. Refute it at one input. -/
def fnValidWrong : ChangeSpec := { name := "fnValid", vars := ["loop.example/pub-g03259/pub/module.badWindowsNames"], fn := fun _ => fun
  | [d, g1] => { results := [.lit (.bool false)], args := [d], vars := [g1] }
  | _ => none }
def FnValidWrongFalsely : Prop := fnValidRow.holds Tryd.pinned (OpenSpec.ofChange fnValidWrong)

/-- 'laws.FnSplit': WHATEVER THE INPUT: true; the input reads as it did. -/
def fnSplitSpec : ChangeSpec := { name := "fnSplit", vars := ["loop.example/pub-g03259/pub/module.badWindowsNames"], fn := fun _ => fun
  | [d, g1] => { results := [.lit (.bool true)], args := [d], vars := [g1] }
  | _ => none }
def fnSplitRow : OpenClaim := { program := "ytfpboapgfbehlaadoor", sum := "95c6553877b006c000b2adcbd82bc0ffd1a44afc35fda11e8ade8d626044366a", func := "loop.example/pub-g03259/laws.FnSplit", spec := "fnSplit", unfollowed := true, recurses := true, named := ["unicode/utf8.first", "unicode/utf8.acceptRanges", "loop.example/pub-g03259/pub/module.badWindowsNames", "unicode.properties", "unicode.Letter", "unicode.asciiFold", "unicode.caseOrbit", "unicode.CaseRanges"], apart := false, laid := [("loop.example/pub-g03259/pub/module.badWindowsNames", laid_loop_example_pub_g03259_pub_module_badWindowsNames)] }
def FnSplitSaid : Prop := fnSplitRow.holds Tryd.pinned (OpenSpec.ofChange fnSplitSpec)

/-- ITS FALSE NEIGHBOUR: 'it returns false'. Refute it at one input. -/
def fnSplitWrong : ChangeSpec := { name := "fnSplit", vars := ["loop.example/pub-g03259/pub/module.badWindowsNames"], fn := fun _ => fun
  | [d, g1] => { results := [.lit (.bool false)], args := [d], vars := [g1] }
  | _ => none }
def FnSplitWrongFalsely : Prop := fnSplitRow.holds Tryd.pinned (OpenSpec.ofChange fnSplitWrong)

/-- 'laws.FnCanonical': WHATEVER THE INPUT: true; the input reads as it did. -/
def fnCanonicalSpec : ChangeSpec := { name := "fnCanonical", vars := ["loop.example/pub-g03259/pub/module.badWindowsNames"], fn := fun _ => fun
  | [d, g1] => { results := [.lit (.bool true)], args := [d], vars := [g1] }
  | _ => none }
def fnCanonicalRow : OpenClaim := { program := "ytfpboapgfbehlaadoor", sum := "95c6553877b006c000b2adcbd82bc0ffd1a44afc35fda11e8ade8d626044366a", func := "loop.example/pub-g03259/laws.FnCanonical", spec := "fnCanonical", unfollowed := true, recurses := true, named := ["unicode/utf8.first", "unicode/utf8.acceptRanges", "loop.example/pub-g03259/pub/module.badWindowsNames", "unicode.properties", "unicode.Letter", "unicode.asciiFold", "unicode.caseOrbit", "unicode.CaseRanges"], apart := false, laid := [("loop.example/pub-g03259/pub/module.badWindowsNames", laid_loop_example_pub_g03259_pub_module_badWindowsNames)] }
def FnCanonicalSaid : Prop := fnCanonicalRow.holds Tryd.pinned (OpenSpec.ofChange fnCanonicalSpec)

/-- ITS FALSE NEIGHBOUR: 'it returns false'. Refute it at one input. -/
def fnCanonicalWrong : ChangeSpec := { name := "fnCanonical", vars := ["loop.example/pub-g03259/pub/module.badWindowsNames"], fn := fun _ => fun
  | [d, g1] => { results := [.lit (.bool false)], args := [d], vars := [g1] }
  | _ => none }
def FnCanonicalWrongFalsely : Prop := fnCanonicalRow.holds Tryd.pinned (OpenSpec.ofChange fnCanonicalWrong)

/-- 'laws.FnMajorPrefix': WHATEVER THE INPUT: true; the input reads as it did. -/
def fnMajorPrefixSpec : ChangeSpec := { name := "fnMajorPrefix", vars := ["loop.example/pub-g03259/pub/module.badWindowsNames"], fn := fun _ => fun
  | [d1, d2, g1] => { results := [.lit (.bool true)], args := [d1, d2], vars := [g1] }
  | _ => none }
def fnMajorPrefixRow : OpenClaim := { program := "ytfpboapgfbehlaadoor", sum := "95c6553877b006c000b2adcbd82bc0ffd1a44afc35fda11e8ade8d626044366a", func := "loop.example/pub-g03259/laws.FnMajorPrefix", spec := "fnMajorPrefix", unfollowed := true, recurses := true, named := ["unicode/utf8.first", "unicode/utf8.acceptRanges", "loop.example/pub-g03259/pub/module.badWindowsNames", "unicode.properties", "unicode.Letter", "unicode.asciiFold", "unicode.caseOrbit", "unicode.CaseRanges"], apart := false, laid := [("loop.example/pub-g03259/pub/module.badWindowsNames", laid_loop_example_pub_g03259_pub_module_badWindowsNames)] }
def FnMajorPrefixSaid : Prop := fnMajorPrefixRow.holds Tryd.pinned (OpenSpec.ofChange fnMajorPrefixSpec)

/-- ITS FALSE NEIGHBOUR: 'it returns false'. Refute it at one input. -/
def fnMajorPrefixWrong : ChangeSpec := { name := "fnMajorPrefix", vars := ["loop.example/pub-g03259/pub/module.badWindowsNames"], fn := fun _ => fun
  | [d1, d2, g1] => { results := [.lit (.bool false)], args := [d1, d2], vars := [g1] }
  | _ => none }
def FnMajorPrefixWrongFalsely : Prop := fnMajorPrefixRow.holds Tryd.pinned (OpenSpec.ofChange fnMajorPrefixWrong)

/-- 'laws.FnMajor': WHATEVER THE INPUT: true; the input reads as it did. -/
def fnMajorSpec : ChangeSpec := { name := "fnMajor", vars := ["loop.example/pub-g03259/pub/module.badWindowsNames"], fn := fun _ => fun
  | [d1, d2, d3, g1] => { results := [.lit (.bool true)], args := [d1, d2, d3], vars := [g1] }
  | _ => none }
def fnMajorRow : OpenClaim := { program := "ytfpboapgfbehlaadoor", sum := "95c6553877b006c000b2adcbd82bc0ffd1a44afc35fda11e8ade8d626044366a", func := "loop.example/pub-g03259/laws.FnMajor", spec := "fnMajor", unfollowed := true, recurses := true, named := ["unicode/utf8.first", "unicode/utf8.acceptRanges", "loop.example/pub-g03259/pub/module.badWindowsNames", "unicode.properties", "unicode.Letter", "unicode.asciiFold", "unicode.caseOrbit", "unicode.CaseRanges"], apart := false, laid := [("loop.example/pub-g03259/pub/module.badWindowsNames", laid_loop_example_pub_g03259_pub_module_badWindowsNames)] }
def FnMajorSaid : Prop := fnMajorRow.holds Tryd.pinned (OpenSpec.ofChange fnMajorSpec)

/-- ITS FALSE NEIGHBOUR: 'it returns false'. Refute it at one input. -/
def fnMajorWrong : ChangeSpec := { name := "fnMajor", vars := ["loop.example/pub-g03259/pub/module.badWindowsNames"], fn := fun _ => fun
  | [d1, d2, d3, g1] => { results := [.lit (.bool false)], args := [d1, d2, d3], vars := [g1] }
  | _ => none }
def FnMajorWrongFalsely : Prop := fnMajorRow.holds Tryd.pinned (OpenSpec.ofChange fnMajorWrong)

/-- 'laws.FnCanonicalVersion': WHATEVER THE INPUT: true; the input reads as it did. -/
def fnCanonicalVersionSpec : ChangeSpec := { name := "fnCanonicalVersion", vars := ["loop.example/pub-g03259/pub/module.badWindowsNames"], fn := fun _ => fun
  | [d, g1] => { results := [.lit (.bool true)], args := [d], vars := [g1] }
  | _ => none }
def fnCanonicalVersionRow : OpenClaim := { program := "ytfpboapgfbehlaadoor", sum := "95c6553877b006c000b2adcbd82bc0ffd1a44afc35fda11e8ade8d626044366a", func := "loop.example/pub-g03259/laws.FnCanonicalVersion", spec := "fnCanonicalVersion", unfollowed := true, recurses := true, named := ["unicode/utf8.first", "unicode/utf8.acceptRanges", "loop.example/pub-g03259/pub/module.badWindowsNames", "unicode.properties", "unicode.Letter", "unicode.asciiFold", "unicode.caseOrbit", "unicode.CaseRanges"], apart := false, laid := [("loop.example/pub-g03259/pub/module.badWindowsNames", laid_loop_example_pub_g03259_pub_module_badWindowsNames)] }
def FnCanonicalVersionSaid : Prop := fnCanonicalVersionRow.holds Tryd.pinned (OpenSpec.ofChange fnCanonicalVersionSpec)

/-- ITS FALSE NEIGHBOUR: 'it returns false'. Refute it at one input. -/
def fnCanonicalVersionWrong : ChangeSpec := { name := "fnCanonicalVersion", vars := ["loop.example/pub-g03259/pub/module.badWindowsNames"], fn := fun _ => fun
  | [d, g1] => { results := [.lit (.bool false)], args := [d], vars := [g1] }
  | _ => none }
def FnCanonicalVersionWrongFalsely : Prop := fnCanonicalVersionRow.holds Tryd.pinned (OpenSpec.ofChange fnCanonicalVersionWrong)

/-- 'laws.FnMax': WHATEVER THE INPUT: true; the input reads as it did. -/
def fnMaxSpec : ChangeSpec := { name := "fnMax", vars := ["loop.example/pub-g03259/pub/module.badWindowsNames"], fn := fun _ => fun
  | [d1, d2, g1] => { results := [.lit (.bool true)], args := [d1, d2], vars := [g1] }
  | _ => none }
def fnMaxRow : OpenClaim := { program := "ytfpboapgfbehlaadoor", sum := "95c6553877b006c000b2adcbd82bc0ffd1a44afc35fda11e8ade8d626044366a", func := "loop.example/pub-g03259/laws.FnMax", spec := "fnMax", unfollowed := true, recurses := true, named := ["unicode/utf8.first", "unicode/utf8.acceptRanges", "loop.example/pub-g03259/pub/module.badWindowsNames", "unicode.properties", "unicode.Letter", "unicode.asciiFold", "unicode.caseOrbit", "unicode.CaseRanges"], apart := false, laid := [("loop.example/pub-g03259/pub/module.badWindowsNames", laid_loop_example_pub_g03259_pub_module_badWindowsNames)] }
def FnMaxSaid : Prop := fnMaxRow.holds Tryd.pinned (OpenSpec.ofChange fnMaxSpec)

/-- ITS FALSE NEIGHBOUR: 'it returns false'. Refute it at one input. -/
def fnMaxWrong : ChangeSpec := { name := "fnMax", vars := ["loop.example/pub-g03259/pub/module.badWindowsNames"], fn := fun _ => fun
  | [d1, d2, g1] => { results := [.lit (.bool false)], args := [d1, d2], vars := [g1] }
  | _ => none }
def FnMaxWrongFalsely : Prop := fnMaxRow.holds Tryd.pinned (OpenSpec.ofChange fnMaxWrong)

/- THE SECOND FORM. 'bulk': how many values and letters a reading holds, each counted each time it is reached (what is shared counts as often as it is met; a slice's spare places count too). A statement '..UptoSaid' is the law's where the arguments, and the package variables that the reading takes, are together of bulk at most 1048576: NARROWER than '..Said'. Prove '..Said' where nothing that the law and all that it calls make is longer than what came in: it says more and counts as full. Else prove '..UptoSaid'. A law counts once. -/
mutual
def uptoBulk {H : Type} : DataW H → Nat
  | .lit (.string bytes) => bytes.length + 1
  | .lit _ => 1
  | .nil => 1
  | .ptr d => uptoBulk d + 1
  | .slice elems spare => uptoBulkAll elems + uptoBulkAll spare + 1
  | .agg parts => uptoBulkAll parts + 1
  | .iface _ d => uptoBulk d + 1
  | .map entries => uptoBulkEntries entries + 1
  | .held _ => 1
def uptoBulkAll {H : Type} : List (DataW H) → Nat
  | [] => 0
  | d :: r => uptoBulk d + uptoBulkAll r
def uptoBulkEntries {H : Type} : List (Lit × DataW H) → Nat
  | [] => 0
  | x :: r => uptoBulkEntry x + uptoBulkEntries r
def uptoBulkEntry {H : Type} : Lit × DataW H → Nat
  | (.string bytes, d) => bytes.length + uptoBulk d + 1
  | (_, d) => uptoBulk d + 1
 end
def uptoSmall : (H : Type) → List (DataW H) → Bool := fun _ ds => decide (uptoBulkAll ds ≤ 1048576)
def OpenSpec.upto (s : _root_.Go.ChangeSpec) : _root_.Go.OpenSpec := { _root_.Go.OpenSpec.ofChange s with cond := some uptoSmall }

/-- 'laws.FnValid', WHERE WHAT IT READS IS OF BULK AT MOST 1048576: true; the input reads as it did. -/
def fnValidUptoRow : OpenClaim := { program := "ytfpboapgfbehlaadoor", sum := "95c6553877b006c000b2adcbd82bc0ffd1a44afc35fda11e8ade8d626044366a", func := "loop.example/pub-g03259/laws.FnValid", spec := "fnValid", unfollowed := true, recurses := true, named := ["unicode/utf8.first", "unicode/utf8.acceptRanges", "loop.example/pub-g03259/pub/module.badWindowsNames", "unicode.properties", "unicode.Letter", "unicode.asciiFold", "unicode.caseOrbit", "unicode.CaseRanges"], apart := false, laid := [("loop.example/pub-g03259/pub/module.badWindowsNames", laid_loop_example_pub_g03259_pub_module_badWindowsNames)], narrowed := true }
def FnValidUptoSaid : Prop := fnValidUptoRow.holds Tryd.pinned (OpenSpec.upto fnValidSpec)

/-- 'laws.FnSplit', WHERE WHAT IT READS IS OF BULK AT MOST 1048576: true; the input reads as it did. -/
def fnSplitUptoRow : OpenClaim := { program := "ytfpboapgfbehlaadoor", sum := "95c6553877b006c000b2adcbd82bc0ffd1a44afc35fda11e8ade8d626044366a", func := "loop.example/pub-g03259/laws.FnSplit", spec := "fnSplit", unfollowed := true, recurses := true, named := ["unicode/utf8.first", "unicode/utf8.acceptRanges", "loop.example/pub-g03259/pub/module.badWindowsNames", "unicode.properties", "unicode.Letter", "unicode.asciiFold", "unicode.caseOrbit", "unicode.CaseRanges"], apart := false, laid := [("loop.example/pub-g03259/pub/module.badWindowsNames", laid_loop_example_pub_g03259_pub_module_badWindowsNames)], narrowed := true }
def FnSplitUptoSaid : Prop := fnSplitUptoRow.holds Tryd.pinned (OpenSpec.upto fnSplitSpec)

/-- 'laws.FnCanonical', WHERE WHAT IT READS IS OF BULK AT MOST 1048576: true; the input reads as it did. -/
def fnCanonicalUptoRow : OpenClaim := { program := "ytfpboapgfbehlaadoor", sum := "95c6553877b006c000b2adcbd82bc0ffd1a44afc35fda11e8ade8d626044366a", func := "loop.example/pub-g03259/laws.FnCanonical", spec := "fnCanonical", unfollowed := true, recurses := true, named := ["unicode/utf8.first", "unicode/utf8.acceptRanges", "loop.example/pub-g03259/pub/module.badWindowsNames", "unicode.properties", "unicode.Letter", "unicode.asciiFold", "unicode.caseOrbit", "unicode.CaseRanges"], apart := false, laid := [("loop.example/pub-g03259/pub/module.badWindowsNames", laid_loop_example_pub_g03259_pub_module_badWindowsNames)], narrowed := true }
def FnCanonicalUptoSaid : Prop := fnCanonicalUptoRow.holds Tryd.pinned (OpenSpec.upto fnCanonicalSpec)

/-- 'laws.FnMajorPrefix', WHERE WHAT IT READS IS OF BULK AT MOST 1048576: true; the input reads as it did. -/
def fnMajorPrefixUptoRow : OpenClaim := { program := "ytfpboapgfbehlaadoor", sum := "95c6553877b006c000b2adcbd82bc0ffd1a44afc35fda11e8ade8d626044366a", func := "loop.example/pub-g03259/laws.FnMajorPrefix", spec := "fnMajorPrefix", unfollowed := true, recurses := true, named := ["unicode/utf8.first", "unicode/utf8.acceptRanges", "loop.example/pub-g03259/pub/module.badWindowsNames", "unicode.properties", "unicode.Letter", "unicode.asciiFold", "unicode.caseOrbit", "unicode.CaseRanges"], apart := false, laid := [("loop.example/pub-g03259/pub/module.badWindowsNames", laid_loop_example_pub_g03259_pub_module_badWindowsNames)], narrowed := true }
def FnMajorPrefixUptoSaid : Prop := fnMajorPrefixUptoRow.holds Tryd.pinned (OpenSpec.upto fnMajorPrefixSpec)

/-- 'laws.FnMajor', WHERE WHAT IT READS IS OF BULK AT MOST 1048576: true; the input reads as it did. -/
def fnMajorUptoRow : OpenClaim := { program := "ytfpboapgfbehlaadoor", sum := "95c6553877b006c000b2adcbd82bc0ffd1a44afc35fda11e8ade8d626044366a", func := "loop.example/pub-g03259/laws.FnMajor", spec := "fnMajor", unfollowed := true, recurses := true, named := ["unicode/utf8.first", "unicode/utf8.acceptRanges", "loop.example/pub-g03259/pub/module.badWindowsNames", "unicode.properties", "unicode.Letter", "unicode.asciiFold", "unicode.caseOrbit", "unicode.CaseRanges"], apart := false, laid := [("loop.example/pub-g03259/pub/module.badWindowsNames", laid_loop_example_pub_g03259_pub_module_badWindowsNames)], narrowed := true }
def FnMajorUptoSaid : Prop := fnMajorUptoRow.holds Tryd.pinned (OpenSpec.upto fnMajorSpec)

/-- 'laws.FnCanonicalVersion', WHERE WHAT IT READS IS OF BULK AT MOST 1048576: true; the input reads as it did. -/
def fnCanonicalVersionUptoRow : OpenClaim := { program := "ytfpboapgfbehlaadoor", sum := "95c6553877b006c000b2adcbd82bc0ffd1a44afc35fda11e8ade8d626044366a", func := "loop.example/pub-g03259/laws.FnCanonicalVersion", spec := "fnCanonicalVersion", unfollowed := true, recurses := true, named := ["unicode/utf8.first", "unicode/utf8.acceptRanges", "loop.example/pub-g03259/pub/module.badWindowsNames", "unicode.properties", "unicode.Letter", "unicode.asciiFold", "unicode.caseOrbit", "unicode.CaseRanges"], apart := false, laid := [("loop.example/pub-g03259/pub/module.badWindowsNames", laid_loop_example_pub_g03259_pub_module_badWindowsNames)], narrowed := true }
def FnCanonicalVersionUptoSaid : Prop := fnCanonicalVersionUptoRow.holds Tryd.pinned (OpenSpec.upto fnCanonicalVersionSpec)

/-- 'laws.FnMax', WHERE WHAT IT READS IS OF BULK AT MOST 1048576: true; the input reads as it did. -/
def fnMaxUptoRow : OpenClaim := { program := "ytfpboapgfbehlaadoor", sum := "95c6553877b006c000b2adcbd82bc0ffd1a44afc35fda11e8ade8d626044366a", func := "loop.example/pub-g03259/laws.FnMax", spec := "fnMax", unfollowed := true, recurses := true, named := ["unicode/utf8.first", "unicode/utf8.acceptRanges", "loop.example/pub-g03259/pub/module.badWindowsNames", "unicode.properties", "unicode.Letter", "unicode.asciiFold", "unicode.caseOrbit", "unicode.CaseRanges"], apart := false, laid := [("loop.example/pub-g03259/pub/module.badWindowsNames", laid_loop_example_pub_g03259_pub_module_badWindowsNames)], narrowed := true }
def FnMaxUptoSaid : Prop := fnMaxUptoRow.holds Tryd.pinned (OpenSpec.upto fnMaxSpec)

end Rows
end Go.Proofs.YtfpboapgfbehlaaDoor
