/- A text is a version exactly if the grammar says so: the walk of the law, for every text. -/
import Derived.Test.YtfpboapgfbehlaaDoorLwAlive
import Derived.Test.YtfpboapgfbehlaaDoorSpF
namespace Go.Proofs.YtfpboapgfbehlaaDoor
open Go.RowKit Str
set_option linter.unusedVariables false

set_option maxHeartbeats 2000000 in
theorem law_FnValid (s : ByteArray) (w : World) (hw : Bad w) (hs : s.size ≤ 140737488351232) :
    Calls Tryd.prog 3 #[.string s] w fun e w' => e = .returned (.bool true) ∧ Below w.heap.size w w' := by
  by_cases h1 : 2147483647 < s.size
  · go_enter Tryd.func3, Tryd.ntmps3
    go_wp2
    go_ret
    exact ⟨rfl, Below.refl _ _⟩
  have HB := Lib.hid hw
  have CA : Hid (∀ w, Bad w → Calls Tryd.prog 12 #[] w fun e w' => e = .returned (.bool true) ∧ Gr w w') := fun w hw => alive_calls w hw
  have CI : Hid (∀ w, Calls Tryd.prog 11 #[.string s] w fun e w' => e = .returned (.bool (Ver.parse s.data.toList).isSome) ∧ Gr w w') := fun w => iIsValid_calls s w hs
  clear hw
  cases hp : Ver.parse s.data.toList with
  | none =>
    have HP := Lib.hid hp
    rw [hp] at CI
    clear hp
    by_cases h2 : 200 < s.size
    · go_enter Tryd.func3, Tryd.ntmps3
      go_wp2_with fail
      refine (spParse_bad _ hs HP.out).mono ?_
      rintro e w1 ⟨rfl, g1⟩
      go_wp2
      go_ret
      exact ⟨rfl, (g1.alloc _).below⟩
    go_enter Tryd.func3, Tryd.ntmps3
    go_wp2_with fail
    refine (spParse_bad _ hs HP.out).mono ?_
    rintro e w1 ⟨rfl, g1⟩
    go_wp2_with fail
    refine (CI.out _).mono ?_
    rintro e w2 ⟨rfl, g2⟩
    have hb := Lib.hid (HB.out.keep ((g1.alloc _).trans g2))
    go_wp2_with fail
    refine (CA.out _ hb.out).mono ?_
    rintro e w3 ⟨rfl, g3⟩
    go_wp2
    go_ret
    exact ⟨rfl, (((g1.alloc _).trans g2).trans g3).below⟩
  | some v =>
    have HP := Lib.hid hp
    rw [hp] at CI
    clear hp
    by_cases h2 : 200 < s.size
    · go_enter Tryd.func3, Tryd.ntmps3
      go_wp2_with fail
      refine (spParse_good _ hs HP.out).mono ?_
      rintro e w1 ⟨rfl, g1⟩
      go_wp2
      go_ret
      exact ⟨rfl, (g1.alloc _).below⟩
    go_enter Tryd.func3, Tryd.ntmps3
    go_wp2_with fail
    refine (spParse_good _ hs HP.out).mono ?_
    rintro e w1 ⟨rfl, g1⟩
    go_wp2_with fail
    refine (CI.out _).mono ?_
    rintro e w2 ⟨rfl, g2⟩
    have hb := Lib.hid (HB.out.keep ((g1.alloc _).trans g2))
    go_wp2_with fail
    refine (CA.out _ hb.out).mono ?_
    rintro e w3 ⟨rfl, g3⟩
    go_wp2
    go_ret
    exact ⟨rfl, (((g1.alloc _).trans g2).trans g3).below⟩
end Go.Proofs.YtfpboapgfbehlaaDoor
