/- A module's path has each capital letter as a small one behind a sign of exclamation: the walk of the law FnEscape. -/
import Derived.Test.YtndimgajkjkgfaaDoorLwAlive
import Derived.Test.YtndimgajkjkgfaaDoorSpM
import Derived.Test.YtndimgajkjkgfaaDoorMdT
namespace Go.Proofs.YtndimgajkjkgfaaDoor
open Go.RowKit Str
set_option linter.unusedVariables false

set_option maxHeartbeats 4000000 in
theorem law_FnEscape (s : ByteArray) (w : World) (hw : Bad w) (hs : s.size ≤ 140737488351232) :
    Calls Tryd.prog 8 #[.string s] w fun e w' => e = .returned (.bool true) ∧ Below w.heap.size w w' := by
  by_cases h1 : 2147483647 < s.size
  · go_enter Tryd.func8, Tryd.ntmps8
    go_wp2
    go_ret
    exact ⟨rfl, Below.refl _ _⟩
  by_cases h2 : 200 < s.size
  · go_enter Tryd.func8, Tryd.ntmps8
    go_wp2
    go_ret
    exact ⟨rfl, Below.refl _ _⟩
  have HB := Lib.hid hw
  have CA : Hid (∀ w, Bad w → Calls Tryd.prog 19 #[] w fun e w' => e = .returned (.bool true) ∧ Gr w w') := fun w hw => alive_calls w hw
  obtain ⟨o, ho⟩ : ∃ o, Pe.opn 0 s.data.toList = o := ⟨_, rfl⟩
  have CO := Lib.hid fun w => Open_calls s 0 (by omega) o ho w (by omega)
  obtain ⟨d, hd⟩ : ∃ d, Pth.behind s.data.toList = d := ⟨_, rfl⟩
  have CD := Lib.hid fun w => behind_calls s w hs
  rw [hd] at CD
  clear hw
  cases o with
  | true =>
    clear ho
    go_enter Tryd.func8, Tryd.ntmps8
    go_wp2_with fail
    refine (CO.out _).mono ?_
    rintro e w1 ⟨rfl, g1⟩
    go_wp2
    go_ret
    exact ⟨rfl, g1⟩
  | false =>
    cases d with
    | true =>
      clear ho hd
      go_enter Tryd.func8, Tryd.ntmps8
      go_wp2_with fail
      refine (CO.out _).mono ?_
      rintro e w1 ⟨rfl, g1⟩
      go_wp2_with fail
      refine (CD.out _).mono ?_
      rintro e w2 ⟨rfl, d2⟩
      go_wp2
      go_ret
      exact ⟨rfl, g1.dr d2⟩
    | false =>
      obtain ⟨b, hb⟩ : ∃ b, Pe.modS s.data.toList = b := ⟨_, rfl⟩
      have ha := (Pe.opn_parts ho).1
      have C2 := Lib.hid fun w => spModule_calls s b hb w (by omega)
      have hbi := (Pe.module_same ho hd).trans hb
      have C1 := Lib.hid fun w hw => iEscapePath_calls s b hbi ha w hw (by omega)
      have CE := Lib.hid fun w => Escaped_calls s w (by omega)
      clear ho hb hd ha hbi
      generalize B (Es.esc s.data.toList) = E at *
      cases b with
      | true =>
        have C1' : Hid (∀ w, Bad w → Calls Tryd.prog 16 #[.string s] w fun e w' => e = .returned (.tuple #[.string E, .bool true]) ∧ Bl w w') := C1.out
        clear C1
        go_enter Tryd.func8, Tryd.ntmps8
        go_wp2_with fail
        refine (CO.out _).mono ?_
        rintro e w1 ⟨rfl, g1⟩
        go_wp2_with fail
        refine (CD.out _).mono ?_
        rintro e w2 ⟨rfl, d2⟩
        have G2 := Lib.hid (g1.dr d2)
        clear g1 d2
        have hb2 := Lib.hid (HB.out.keepB G2.out)
        go_wp2_with fail
        refine (C1'.out _ hb2.out).mono ?_
        rintro e w3 ⟨rfl, g3⟩
        go_wp2_with fail
        refine (C2.out _).mono ?_
        rintro e w4 ⟨rfl, g4⟩
        have G4 := Lib.hid ((G2.out.trans g3).trans g4)
        clear g3 g4
        go_wp2_with fail
        refine (CE.out _).mono ?_
        rintro e w5 ⟨rfl, g5⟩
        go_wp2
        go_ret
        exact ⟨rfl, G4.out.trans g5⟩
      | false =>
        have C1' : Hid (∀ w, Bad w → Calls Tryd.prog 16 #[.string s] w fun e w' => e = .returned (.tuple #[.string ⟨#[]⟩, .bool false]) ∧ Bl w w') := C1.out
        clear C1
        go_enter Tryd.func8, Tryd.ntmps8
        go_wp2_with fail
        refine (CO.out _).mono ?_
        rintro e w1 ⟨rfl, g1⟩
        go_wp2_with fail
        refine (CD.out _).mono ?_
        rintro e w2 ⟨rfl, d2⟩
        have G2 := Lib.hid (g1.dr d2)
        clear g1 d2
        have hb2 := Lib.hid (HB.out.keepB G2.out)
        go_wp2_with fail
        refine (C1'.out _ hb2.out).mono ?_
        rintro e w3 ⟨rfl, g3⟩
        go_wp2_with fail
        refine (C2.out _).mono ?_
        rintro e w4 ⟨rfl, g4⟩
        have G4 := Lib.hid ((G2.out.trans g3).trans g4)
        clear g3 g4
        have hb4 := Lib.hid (HB.out.keepB G4.out)
        go_wp2_with fail
        refine (CA.out _ hb4.out).mono ?_
        rintro e w5 ⟨rfl, g5⟩
        go_wp2
        go_ret
        exact ⟨rfl, G4.out.gr g5⟩
end Go.Proofs.YtndimgajkjkgfaaDoor
