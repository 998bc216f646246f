/- A version with all three numbers: the walk of the law FnCanonical, for every text; the reference's Canonical; the thin package's. -/
import Derived.Test.YtfpboapgfbehlaaDoorLwAlive
import Derived.Test.YtfpboapgfbehlaaDoorSpF
namespace Go.Proofs.YtfpboapgfbehlaaDoor
open Go.RowKit Str Ver
set_option linter.unusedVariables false

theorem iCanonical_calls (s : ByteArray) (w : World) (hs : s.size ≤ 140737488351232) :
    Calls Tryd.prog 16 #[.string s] w fun e w' => e = .returned (.string (B (Ver.canonT s.data.toList))) ∧ Gr w w' := by
  have H := Lib.hid (Canonical_calls s w hs)
  generalize Ver.canonT s.data.toList = X at *
  go_enter Tryd.func16, Tryd.ntmps16
  go_wp2_with fail
  refine H.out.mono ?_
  rintro e w1 ⟨rfl, hg⟩
  go_wp2
  go_ret
  exact ⟨rfl, hg⟩

set_option maxHeartbeats 2000000 in
theorem spCanonical_calls (s : ByteArray) (w : World) (hs : s.size ≤ 1000) :
    Calls Tryd.prog 17 #[.string s] w fun e w' => e = .returned (.string (B (Ver.canonT s.data.toList))) ∧ Gr w w' := by
  unfold Ver.canonT
  cases hp : Ver.parse s.data.toList with
  | none =>
    have HP := Lib.hid hp
    clear hp
    go_enter Tryd.func17, Tryd.ntmps17
    go_wp2_with fail
    refine (spParse_bad _ (by omega) HP.out).mono ?_
    rintro e w1 ⟨rfl, hg⟩
    go_wp2
    go_ret
    exact ⟨rfl, hg.alloc _⟩
  | some v =>
    have HP := Lib.hid hp
    show Calls Tryd.prog 17 #[.string s] w fun e w' => e = .returned (.string (B (canon v))) ∧ Gr w w'
    obtain ⟨l1, l2, l3, l4⟩ : v.major.length ≤ 1000 ∧ v.minor.length ≤ 1000 ∧ v.patch.length ≤ 1000 ∧ v.pre.length ≤ 1000 := by
      have hl : s.data.toList.length ≤ 1000 := by rw [← Lib.size_eq]; exact hs
      rcases parse_shape hp with ⟨_, h1, h2, h3, h4, h5⟩ | ⟨_, h1, h3, h4, h5⟩ | ⟨_, h1, _⟩ <;> (have h6 := congrArg List.length h1; simp at h6) <;> simp_all [Ver.zero] <;> omega
    obtain ⟨a1, h1⟩ : ∃ a, a = B (118 :: v.major) := ⟨_, rfl⟩
    obtain ⟨a2, h2⟩ : ∃ a, a = B (118 :: v.major ++ [46]) := ⟨_, rfl⟩
    obtain ⟨a3, h3⟩ : ∃ a, a = B (118 :: v.major ++ 46 :: v.minor) := ⟨_, rfl⟩
    obtain ⟨a4, h4⟩ : ∃ a, a = B (118 :: v.major ++ 46 :: v.minor ++ [46]) := ⟨_, rfl⟩
    obtain ⟨a5, h5⟩ : ∃ a, a = B (118 :: v.major ++ 46 :: v.minor ++ 46 :: v.patch) := ⟨_, rfl⟩
    obtain ⟨a6, h6⟩ : ∃ a, a = B (canon v) := ⟨_, rfl⟩
    have k0 : (⟨#[118]⟩ : ByteArray).size = 1 := rfl
    have k0' : (⟨#[46]⟩ : ByteArray).size = 1 := rfl
    have p1 : Op.stringOp .add (⟨#[118]⟩ : ByteArray) (B v.major) = pure (.string a1) :=
      str_add (by rw [h1]; exact B_append [118] _) (by rw [B_size]; omega)
    have p2 : Op.stringOp .add a1 (⟨#[46]⟩ : ByteArray) = pure (.string a2) :=
      str_add (by rw [h1, h2]; exact B_append _ [46]) (by rw [h1, B_size]; simp; omega)
    have p3 : Op.stringOp .add a2 (B v.minor) = pure (.string a3) :=
      str_add (by rw [h2, h3, B_append]; simp) (by rw [h2, B_size, B_size]; simp; omega)
    have p4 : Op.stringOp .add a3 (⟨#[46]⟩ : ByteArray) = pure (.string a4) :=
      str_add (by rw [h3, h4]; exact B_append _ [46]) (by rw [h3, B_size]; simp; omega)
    have p5 : Op.stringOp .add a4 (B v.patch) = pure (.string a5) :=
      str_add (by rw [h4, h5, B_append]; simp) (by rw [h4, B_size, B_size]; simp; omega)
    have p6 : Op.stringOp .add a5 (B v.pre) = pure (.string a6) :=
      str_add (by rw [h5, h6, B_append]; rfl) (by rw [h5, B_size, B_size]; simp; omega)
    rw [← h6]
    clear hp l1 l2 l3 l4 h1 h2 h3 h4 h5 h6 k0 k0'
    go_enter Tryd.func17, Tryd.ntmps17
    go_wp2_with fail
    refine (spParse_good _ (by omega) HP.out).mono ?_
    rintro e w1 ⟨rfl, hg⟩
    go_wp2
    try (go_quiet (fail); go_wp2)
    go_ret
    exact ⟨rfl, by first | exact hg.alloc _ | exact (hg.alloc _).drewN _⟩

set_option maxHeartbeats 2000000 in
theorem law_FnCanonical (s : ByteArray) (w : World) (hw : Bad w) (hs : s.size ≤ 140737488351232) :
    Calls Tryd.prog 5 #[.string s] w fun e w' => e = .returned (.bool true) ∧ Below w.heap.size w w' := by
  by_cases h1 : 2147483647 < s.size
  · go_enter Tryd.func5, Tryd.ntmps5
    go_wp2
    go_ret
    exact ⟨rfl, Below.refl _ _⟩
  by_cases h2 : 200 < s.size
  · go_enter Tryd.func5, Tryd.ntmps5
    go_wp2
    go_ret
    exact ⟨rfl, Below.refl _ _⟩
  have HB := Lib.hid hw
  have CA : Hid (∀ w, Bad w → Calls Tryd.prog 12 #[] w fun e w' => e = .returned (.bool true) ∧ Gr w w') := fun w hw => alive_calls w hw
  have C1 := Lib.hid fun w => iCanonical_calls s w hs
  have C2 := Lib.hid fun w => spCanonical_calls s w (by omega)
  clear hw
  generalize Ver.canonT s.data.toList = X at *
  have e1 : ((B X).toList == (B X).toList) = true := beq_self_eq_true _
  go_enter Tryd.func5, Tryd.ntmps5
  go_wp2_with fail
  refine (C1.out _).mono ?_
  rintro e w1 ⟨rfl, g1⟩
  go_wp2_with fail
  refine (C2.out _).mono ?_
  rintro e w2 ⟨rfl, g2⟩
  have hb := Lib.hid (HB.out.keep (g1.trans g2))
  go_wp2_with fail
  refine (CA.out _ hb.out).mono ?_
  rintro e w3 ⟨rfl, g3⟩
  go_wp2
  go_ret
  exact ⟨rfl, ((g1.trans g2).trans g3).below⟩
end Go.Proofs.YtfpboapgfbehlaaDoor
