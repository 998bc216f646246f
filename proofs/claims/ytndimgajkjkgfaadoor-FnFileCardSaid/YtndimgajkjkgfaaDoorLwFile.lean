/- The path of a file is one exactly if the rules say so: the walk of the law FnFile. -/
import Derived.Test.YtndimgajkjkgfaaDoorLwAlive
import Derived.Test.YtndimgajkjkgfaaDoorMdR
import Derived.Test.YtndimgajkjkgfaaDoorSpK
namespace Go.Proofs.YtndimgajkjkgfaaDoor
open Go.RowKit Str
set_option linter.unusedVariables false

set_option maxHeartbeats 4000000 in
theorem law_FnFile (s : ByteArray) (w : World) (hw : Bad w) (hs : s.size ≤ 140737488351232) :
    Calls Tryd.prog 5 #[.string s] w fun e w' => e = .returned (.bool true) ∧ Below w.heap.size w w' := by
  by_cases h1 : 2147483647 < s.size
  · go_enter Tryd.func5, Tryd.ntmps5
    go_wp2
    go_ret
    exact ⟨rfl, Below.refl _ _⟩
  by_cases h2 : 200 < s.size
  · go_enter Tryd.func5, Tryd.ntmps5
    go_wp2
    go_ret
    exact ⟨rfl, Below.refl _ _⟩
  have HB := Lib.hid hw
  have CA : Hid (∀ w, Bad w → Calls Tryd.prog 19 #[] w fun e w' => e = .returned (.bool true) ∧ Gr w w') := fun w hw => alive_calls w hw
  obtain ⟨o, ho⟩ : ∃ o, Pe.opn 2 s.data.toList = o := ⟨_, rfl⟩
  have CO := Lib.hid fun w => Open_calls s 2 (by omega) o ho w (by omega)
  clear hw
  cases o with
  | true =>
    clear ho
    go_enter Tryd.func5, Tryd.ntmps5
    go_wp2_with fail
    refine (CO.out _).mono ?_
    rintro e w1 ⟨rfl, g1⟩
    go_wp2
    go_ret
    exact ⟨rfl, g1⟩
  | false =>
    obtain ⟨b, hb⟩ : ∃ b, (Ver.split 47 s.data.toList).all (Pe.element 2) = b := ⟨_, rfl⟩
    have C1 : Hid (∀ w, Bad w → Calls Tryd.prog 20 #[.string s] w fun e w' => e = .returned (.bool b) ∧ Gr w w') := fun w hw =>
      iCheckFilePath_calls s b ((Pe.path_same (by omega) ho).trans hb) (Pe.opn_parts ho).1 w hw hs
    have C2 := Lib.hid fun w => Import_calls s 2 (by omega) b hb w (by omega)
    clear ho hb
    cases b
    all_goals
      go_enter Tryd.func5, Tryd.ntmps5
      go_wp2_with fail
      refine (CO.out _).mono ?_
      rintro e w1 ⟨rfl, g1⟩
      have hb1 := Lib.hid (HB.out.keepB g1)
      go_wp2_with fail
      refine (C1.out _ hb1.out).mono ?_
      rintro e w2 ⟨rfl, g2⟩
      go_wp2_with fail
      refine (C2.out _).mono ?_
      rintro e w3 ⟨rfl, g3⟩
      have G3 := Lib.hid ((g1.gr g2).trans g3)
      clear g1 g2 g3
      have hb3 := Lib.hid (HB.out.keepB G3.out)
      go_wp2_with fail
      refine (CA.out _ hb3.out).mono ?_
      rintro e w4 ⟨rfl, g4⟩
      go_wp2
      go_ret
      exact ⟨rfl, G3.out.gr g4⟩
end Go.Proofs.YtndimgajkjkgfaaDoor
