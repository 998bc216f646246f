/- A module's path is the same behind both: the walk of the law FnEscapeBack. -/
import Derived.Test.YtndimgajkjkgfaaDoorLwAlive
import Derived.Test.YtndimgajkjkgfaaDoorSpM
import Derived.Test.YtndimgajkjkgfaaDoorMdT
namespace Go.Proofs.YtndimgajkjkgfaaDoor
open Go.RowKit Str
set_option linter.unusedVariables false

set_option maxHeartbeats 4000000 in
theorem law_FnEscapeBack (s : ByteArray) (w : World) (hw : Bad w) (hs : s.size ≤ 140737488351232) :
    Calls Tryd.prog 3 #[.string s] w fun e w' => e = .returned (.bool true) ∧ Below w.heap.size w w' := by
  by_cases h1 : 2147483647 < s.size
  · go_enter Tryd.func3, Tryd.ntmps3
    go_wp2
    go_ret
    exact ⟨rfl, Below.refl _ _⟩
  by_cases h2 : 200 < s.size
  · go_enter Tryd.func3, Tryd.ntmps3
    go_wp2
    go_ret
    exact ⟨rfl, Below.refl _ _⟩
  have HB := Lib.hid hw
  obtain ⟨o, ho⟩ : ∃ o, Pe.opn 0 s.data.toList = o := ⟨_, rfl⟩
  have CO := Lib.hid fun w => Open_calls s 0 (by omega) o ho w (by omega)
  obtain ⟨d, hd⟩ : ∃ d, Pth.behind s.data.toList = d := ⟨_, rfl⟩
  have CD := Lib.hid fun w => behind_calls s w hs
  rw [hd] at CD
  clear hw
  cases o with
  | true =>
    clear ho
    go_enter Tryd.func3, Tryd.ntmps3
    go_wp2_with fail
    refine (CO.out _).mono ?_
    rintro e w1 ⟨rfl, g1⟩
    go_wp2
    go_ret
    exact ⟨rfl, g1⟩
  | false =>
    cases d with
    | true =>
      clear ho hd
      go_enter Tryd.func3, Tryd.ntmps3
      go_wp2_with fail
      refine (CO.out _).mono ?_
      rintro e w1 ⟨rfl, g1⟩
      go_wp2_with fail
      refine (CD.out _).mono ?_
      rintro e w2 ⟨rfl, d2⟩
      go_wp2
      go_ret
      exact ⟨rfl, g1.dr d2⟩
    | false =>
      obtain ⟨b, hb⟩ : ∃ b, Pe.modS s.data.toList = b := ⟨_, rfl⟩
      have ha := (Pe.opn_parts ho).1
      have C2 := Lib.hid fun w => spModule_calls s b hb w (by omega)
      have hbi := (Pe.module_same ho hd).trans hb
      cases b with
      | true =>
        have C1 : Hid (∀ w, Bad w → Calls Tryd.prog 16 #[.string s] w fun e w' => e = .returned (.tuple #[.string (B (Es.esc s.data.toList)), .bool true]) ∧ Bl w w') := fun w hw => iEscapePath_calls s true hbi ha w hw (by omega)
        have hlen := Es.esc_len s.data.toList
        rw [← Lib.size_eq] at hlen
        have C3 : Hid (∀ w, Bad w → Calls Tryd.prog 17 #[.string (B (Es.esc s.data.toList))] w fun e w' => e = .returned (.tuple #[.string s, .bool true]) ∧ Bl w w') := fun w hw => by
          have := iUnescapePath_calls (B (Es.esc s.data.toList)) (some s.data.toList) (by rw [B_data, Es.unesc_esc _ ha (mod_no33 hbi)]; show (if _ then _ else _) = _; rw [if_pos hbi]) w hw (by rw [B_size]; omega)
          rw [show (some s.data.toList).elim (⟨#[]⟩ : ByteArray) B = s from B_of s] at this
          exact this
        clear ho hb hd ha hbi hlen
        generalize B (Es.esc s.data.toList) = E at *
        go_enter Tryd.func3, Tryd.ntmps3
        go_wp2_with fail
        refine (CO.out _).mono ?_
        rintro e w1 ⟨rfl, g1⟩
        go_wp2_with fail
        refine (CD.out _).mono ?_
        rintro e w2 ⟨rfl, d2⟩
        go_wp2_with fail
        refine (C2.out _).mono ?_
        rintro e w3 ⟨rfl, g3⟩
        have G3 := Lib.hid ((g1.dr d2).trans g3)
        clear g1 d2 g3
        have hb3 := Lib.hid (HB.out.keepB G3.out)
        go_wp2_with fail
        refine (C1.out _ hb3.out).mono ?_
        rintro e w4 ⟨rfl, g4⟩
        have hb4 := Lib.hid (hb3.out.keepB g4)
        go_wp2_with fail
        refine (C3.out _ hb4.out).mono ?_
        rintro e w5 ⟨rfl, g5⟩
        go_wp2
        go_ret
        exact ⟨rfl, (G3.out.trans g4).trans g5⟩
      | false =>
        clear ho hb hd ha hbi
        go_enter Tryd.func3, Tryd.ntmps3
        go_wp2_with fail
        refine (CO.out _).mono ?_
        rintro e w1 ⟨rfl, g1⟩
        go_wp2_with fail
        refine (CD.out _).mono ?_
        rintro e w2 ⟨rfl, d2⟩
        go_wp2_with fail
        refine (C2.out _).mono ?_
        rintro e w3 ⟨rfl, g3⟩
        go_wp2
        go_ret
        exact ⟨rfl, (g1.dr d2).trans g3⟩
end Go.Proofs.YtndimgajkjkgfaaDoor
