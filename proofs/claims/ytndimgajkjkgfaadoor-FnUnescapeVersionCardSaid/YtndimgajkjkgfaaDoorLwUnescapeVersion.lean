/- What was escaped is read exactly if it is of a version: the walk of the law FnUnescapeVersion. -/
import Derived.Test.YtndimgajkjkgfaaDoorLwEscapeVersion
import Derived.Test.YtndimgajkjkgfaaDoorUs
namespace Go.Proofs.YtndimgajkjkgfaaDoor
open Go.RowKit Str
set_option linter.unusedVariables false

set_option maxHeartbeats 4000000 in
theorem law_FnUnescapeVersion (s : ByteArray) (w : World) (hw : Bad w) (hs : s.size ≤ 140737488351232) :
    Calls Tryd.prog 10 #[.string s] w fun e w' => e = .returned (.bool true) ∧ Below w.heap.size w w' := by
  by_cases h1 : 2147483647 < s.size
  · go_enter Tryd.func10, Tryd.ntmps10
    go_wp2
    go_ret
    exact ⟨rfl, Below.refl _ _⟩
  have CU := Lib.hid fun w => spUnescaped_calls s w (by omega)
  have HB := Lib.hid hw
  have CA : Hid (∀ w, Bad w → Calls Tryd.prog 19 #[] w fun e w' => e = .returned (.bool true) ∧ Gr w w') := fun w hw => alive_calls w hw
  clear hw
  by_cases h2 : 100 < s.size
  · cases hu : Es.unesc false s.data.toList with
    | none =>
      rw [hu] at CU
      have CU' : Hid (∀ w, Calls Tryd.prog 24 #[.string s] w fun e w' => e = .returned (.tuple #[.string ⟨#[]⟩, .bool false]) ∧ Bl w w') := CU.out
      clear hu CU
      go_enter Tryd.func10, Tryd.ntmps10
      go_wp2_with fail
      refine (CU'.out _).mono ?_
      rintro e w1 ⟨rfl, g1⟩
      go_wp2
      go_ret
      exact ⟨rfl, g1⟩
    | some p =>
      rw [hu] at CU
      have CU' : Hid (∀ w, Calls Tryd.prog 24 #[.string s] w fun e w' => e = .returned (.tuple #[.string (B p), .bool true]) ∧ Bl w w') := CU.out
      clear hu CU
      generalize B p = P at *
      go_enter Tryd.func10, Tryd.ntmps10
      go_wp2_with fail
      refine (CU'.out _).mono ?_
      rintro e w1 ⟨rfl, g1⟩
      go_wp2
      go_ret
      exact ⟨rfl, g1⟩
  have C1 := Lib.hid fun R hR w hw => iUnescapeVersion_calls s R hR w hw (by omega)
  cases hu : Es.unesc false s.data.toList with
  | none =>
    rw [hu] at CU C1
    have CU' : Hid (∀ w, Calls Tryd.prog 24 #[.string s] w fun e w' => e = .returned (.tuple #[.string ⟨#[]⟩, .bool false]) ∧ Bl w w') := CU.out
    have C1' : Hid (∀ w, Bad w → Calls Tryd.prog 25 #[.string s] w fun e w' => e = .returned (.tuple #[.string ⟨#[]⟩, .bool false]) ∧ Bl w w') := fun w hw => C1.out none rfl w hw
    clear hu CU C1
    go_enter Tryd.func10, Tryd.ntmps10
    go_wp2_with fail
    refine (CU'.out _).mono ?_
    rintro e w1 ⟨rfl, g1⟩
    have hb1 := Lib.hid (HB.out.keepB g1)
    go_wp2_with fail
    refine (C1'.out _ hb1.out).mono ?_
    rintro e w2 ⟨rfl, g2⟩
    have hb2 := Lib.hid (hb1.out.keepB g2)
    go_wp2_with fail
    refine (CA.out _ hb2.out).mono ?_
    rintro e w3 ⟨rfl, g3⟩
    go_wp2
    go_ret
    exact ⟨rfl, (g1.trans g2).gr g3⟩
  | some p =>
    obtain ⟨hl, ha⟩ := Es.unesc_good _ _ _ hu
    rw [← Lib.size_eq] at hl
    rw [hu] at CU C1
    have CU' : Hid (∀ w, Calls Tryd.prog 24 #[.string s] w fun e w' => e = .returned (.tuple #[.string (B p), .bool true]) ∧ Bl w w') := CU.out
    obtain ⟨o, ho⟩ : ∃ o, Pe.opn 2 p = o := ⟨_, rfl⟩
    have CO := Lib.hid fun w => Open_calls (B p) 2 (by omega) o (by rw [B_data]; exact ho) w (by rw [B_size]; omega)
    cases o with
    | true =>
      clear ho hu CU C1 hl ha
      generalize B p = P at *
      go_enter Tryd.func10, Tryd.ntmps10
      go_wp2_with fail
      refine (CU'.out _).mono ?_
      rintro e w1 ⟨rfl, g1⟩
      go_wp2_with fail
      refine (CO.out _).mono ?_
      rintro e w2 ⟨rfl, g2⟩
      go_wp2
      go_ret
      exact ⟨rfl, g1.trans g2⟩
    | false =>
      obtain ⟨b, hb⟩ : ∃ b, Pe.element 2 p = b := ⟨_, rfl⟩
      have hbi := (Pe.elem_same (by omega) (Pe.asked_two ho)).trans hb
      have C2 := Lib.hid fun w => Element_calls (B p) 2 (by omega) b (by rw [B_data]; exact hb) w (by rw [B_size]; omega)
      cases b with
      | true =>
        have C1' : Hid (∀ w, Bad w → Calls Tryd.prog 25 #[.string s] w fun e w' => e = .returned (.tuple #[.string (B p), .bool true]) ∧ Bl w w') := fun w hw =>
          C1.out (some p) (by show (if _ then _ else _) = _; rw [if_pos hbi]) w hw
        clear ho hu CU C1 hl ha hb hbi
        generalize B p = P at *
        go_enter Tryd.func10, Tryd.ntmps10
        go_wp2_with fail
        refine (CU'.out _).mono ?_
        rintro e w1 ⟨rfl, g1⟩
        go_wp2_with fail
        refine (CO.out _).mono ?_
        rintro e w2 ⟨rfl, g2⟩
        have G3 := Lib.hid (g1.trans g2)
        clear g1 g2
        have hb3 := Lib.hid (HB.out.keepB G3.out)
        go_wp2_with fail
        refine (C1'.out _ hb3.out).mono ?_
        rintro e w4 ⟨rfl, g4⟩
        go_wp2_with fail
        refine (C2.out _).mono ?_
        rintro e w5 ⟨rfl, g5⟩
        go_wp2
        go_ret
        exact ⟨rfl, (G3.out.trans g4).trans g5⟩
      | false =>
        have C1' : Hid (∀ w, Bad w → Calls Tryd.prog 25 #[.string s] w fun e w' => e = .returned (.tuple #[.string ⟨#[]⟩, .bool false]) ∧ Bl w w') := fun w hw =>
          C1.out none (by show (if _ then _ else _) = _; rw [if_neg (by rw [hbi]; decide)]) w hw
        clear ho hu CU C1 hl ha hb hbi
        generalize B p = P at *
        go_enter Tryd.func10, Tryd.ntmps10
        go_wp2_with fail
        refine (CU'.out _).mono ?_
        rintro e w1 ⟨rfl, g1⟩
        go_wp2_with fail
        refine (CO.out _).mono ?_
        rintro e w2 ⟨rfl, g2⟩
        have G3 := Lib.hid (g1.trans g2)
        clear g1 g2
        have hb3 := Lib.hid (HB.out.keepB G3.out)
        go_wp2_with fail
        refine (C1'.out _ hb3.out).mono ?_
        rintro e w4 ⟨rfl, g4⟩
        go_wp2_with fail
        refine (C2.out _).mono ?_
        rintro e w5 ⟨rfl, g5⟩
        have G5 := Lib.hid ((G3.out.trans g4).trans g5)
        clear g4 g5
        have hb5 := Lib.hid (HB.out.keepB G5.out)
        go_wp2_with fail
        refine (CA.out _ hb5.out).mono ?_
        rintro e w6 ⟨rfl, g6⟩
        go_wp2
        go_ret
        exact ⟨rfl, G5.out.gr g6⟩
end Go.Proofs.YtndimgajkjkgfaaDoor
