/- A path's version and what stands ahead of it: the walk of the law FnSplit, for every text. -/
import Derived.Test.YtfpboapgfbehlaaDoorLwAlive
import Derived.Test.YtfpboapgfbehlaaDoorSpG
namespace Go.Proofs.YtfpboapgfbehlaaDoor
open Go.RowKit Str
set_option linter.unusedVariables false

theorem iSplit_calls (s : ByteArray) (w : World) (hs : s.size ≤ 140737488351232) :
    Calls Tryd.prog 14 #[.string s] w fun e w' => e = .returned (splitVal (Pth.splitI s.data.toList)) ∧ Drew w w' := by
  have H := Lib.hid (SplitPathVersion_calls s w hs)
  generalize Pth.splitI s.data.toList = X at *
  obtain ⟨x1, x2, x3⟩ := X
  unfold splitVal at *
  go_enter Tryd.func14, Tryd.ntmps14
  go_wp2_with fail
  refine H.out.mono ?_
  rintro e w1 ⟨rfl, hg⟩
  go_wp2
  go_ret3
  exact ⟨rfl, hg⟩

set_option maxHeartbeats 4000000 in
theorem law_FnSplit (s : ByteArray) (w : World) (hw : Bad w) (hs : s.size ≤ 140737488351232) :
    Calls Tryd.prog 4 #[.string s] w fun e w' => e = .returned (.bool true) ∧ Below w.heap.size w w' := by
  by_cases h1 : 2147483647 < s.size
  · go_enter Tryd.func4, Tryd.ntmps4
    go_wp2
    go_ret
    exact ⟨rfl, Below.refl _ _⟩
  by_cases h2 : 200 < s.size
  · go_enter Tryd.func4, Tryd.ntmps4
    go_wp2
    go_ret
    exact ⟨rfl, Below.refl _ _⟩
  have HB := Lib.hid hw
  have CA : Hid (∀ w, Bad w → Calls Tryd.prog 12 #[] w fun e w' => e = .returned (.bool true) ∧ Gr w w') := fun w hw => alive_calls w hw
  have CB := Lib.hid fun w => behind_calls s w hs
  have C1 := Lib.hid fun w => iSplit_calls s w hs
  have C2 := Lib.hid fun w => spSplit_calls s w hs
  have hgl := Pth.splitI_glue s.data.toList
  clear hw
  obtain ⟨b, hb⟩ : ∃ b, Pth.behind s.data.toList = b := ⟨_, rfl⟩
  rw [hb] at CB
  cases b with
  | true =>
    clear hb hgl
    go_enter Tryd.func4, Tryd.ntmps4
    go_wp2_with fail
    refine (CB.out _).mono ?_
    rintro e w1 ⟨rfl, d1⟩
    go_wp2
    go_ret
    exact ⟨rfl, (Gr.of_drew d1).below⟩
  | false =>
    rw [← Pth.split_same hb] at C2
    clear hb
    obtain ⟨⟨x1, x2, x3⟩, hx⟩ : ∃ x, Pth.splitI s.data.toList = x := ⟨_, rfl⟩
    rw [hx] at C1 C2 hgl
    unfold splitVal at C1 C2
    have e1 : ((B x1).toList == (B x1).toList) = true := beq_self_eq_true _
    have e2 : ((B x2).toList == (B x2).toList) = true := beq_self_eq_true _
    have hgl' : x1 ++ x2 = s.data.toList := hgl
    have hz : x1.length + x2.length = s.size := by
      have := congrArg List.length hgl'
      rw [List.length_append, ← Lib.size_eq] at this; exact this
    have hadd : Op.stringOp .add (B x1) (B x2) = pure (.string s) := str_add (by rw [B_append, hgl', B_of]) (by rw [B_size, B_size]; omega)
    have e3 : (s.toList == s.toList) = true := beq_self_eq_true _
    clear hx hgl hgl' hz
    cases x3
    all_goals
      go_enter Tryd.func4, Tryd.ntmps4
      go_wp2_with fail
      refine (CB.out _).mono ?_
      rintro e w1 ⟨rfl, d1⟩
      go_wp2_with fail
      refine (C1.out _).mono ?_
      rintro e w2 ⟨rfl, d2⟩
      go_wp2_with fail
      refine (C2.out _).mono ?_
      rintro e w3 ⟨rfl, d3⟩
      have g3 := Lib.hid (Gr.of_drew ((d1.trans d2).trans d3))
      clear d1 d2 d3
      have hb := Lib.hid (HB.out.keep g3.out)
      go_wp2_with fail
      refine (CA.out _ hb.out).mono ?_
      rintro e w4 ⟨rfl, g4⟩
      go_wp2
      go_ret
      exact ⟨rfl, (g3.out.trans g4).below⟩
end Go.Proofs.YtfpboapgfbehlaaDoor
