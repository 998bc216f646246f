/- The greater one of two versions: the walk of the law FnMax, for every two texts. -/
import Derived.Test.YtfpboapgfbehlaaDoorLwCanonicalVersion
import Derived.Test.YtfpboapgfbehlaaDoorCanon
namespace Go.Proofs.YtfpboapgfbehlaaDoor
open Go.RowKit Str Ver
set_option linter.unusedVariables false

theorem iMax_calls (s t : ByteArray) (w : World) (hs : s.size ≤ 1000) (ht : t.size ≤ 1000) :
    Calls Tryd.prog 26 #[.string s, .string t] w fun e w' => e = .returned (.string (if 0 < Ver.cmp (Ver.canonT s.data.toList) (Ver.canonT t.data.toList) then B (Ver.canonT s.data.toList) else B (Ver.canonT t.data.toList))) ∧ Gr w w' := by
  have H := Lib.hid (Max_calls s t w hs ht)
  generalize (if 0 < Ver.cmp (Ver.canonT s.data.toList) (Ver.canonT t.data.toList) then B (Ver.canonT s.data.toList) else B (Ver.canonT t.data.toList)) = X at *
  go_enter Tryd.func26, Tryd.ntmps26
  go_wp2_with fail
  refine H.out.mono ?_
  rintro e w1 ⟨rfl, hg⟩
  go_wp2
  go_ret
  exact ⟨rfl, hg⟩

set_option maxHeartbeats 4000000 in
theorem law_FnMax (s t : ByteArray) (w : World) (hw : Bad w) (hs : s.size ≤ 140737488351232) (ht : t.size ≤ 140737488351232) :
    Calls Tryd.prog 9 #[.string s, .string t] w fun e w' => e = .returned (.bool true) ∧ Below w.heap.size w w' := by
  by_cases h1 : 2147483647 < s.size
  · go_enter Tryd.func9, Tryd.ntmps9
    go_wp2
    go_ret
    exact ⟨rfl, Below.refl _ _⟩
  by_cases h1' : 2147483647 < t.size
  · go_enter Tryd.func9, Tryd.ntmps9
    go_wp2
    go_ret
    exact ⟨rfl, Below.refl _ _⟩
  by_cases h2 : 200 < s.size
  · go_enter Tryd.func9, Tryd.ntmps9
    go_wp2
    go_ret
    exact ⟨rfl, Below.refl _ _⟩
  by_cases h2' : 200 < t.size
  · go_enter Tryd.func9, Tryd.ntmps9
    go_wp2
    go_ret
    exact ⟨rfl, Below.refl _ _⟩
  have HB := Lib.hid hw
  have CA : Hid (∀ w, Bad w → Calls Tryd.prog 12 #[] w fun e w' => e = .returned (.bool true) ∧ Gr w w') := fun w hw => alive_calls w hw
  have C1 := Lib.hid fun w => spCanonical_calls s w (by omega)
  have C2 := Lib.hid fun w => spCanonical_calls t w (by omega)
  have hla := canonT_len (l := s.data.toList) (by rw [← Lib.size_eq]; omega)
  have hlb := canonT_len (l := t.data.toList) (by rw [← Lib.size_eq]; omega)
  have C3 : Hid (∀ w, Calls Tryd.prog 25 #[.string (B (canonT s.data.toList)), .string (B (canonT t.data.toList))] w fun e w' => e = .returned (.int .i64 (Ver.cmp (canonT s.data.toList) (canonT t.data.toList))) ∧ Gr w w') := fun w => by
    have := spCompare_calls (B (canonT s.data.toList)) (B (canonT t.data.toList)) w (by rw [B_size]; omega) (by rw [B_size]; omega)
    rw [B_data, B_data] at this; exact this
  have C4 := Lib.hid fun w => iMax_calls s t w (by omega) (by omega)
  have hm := max_same s.data.toList t.data.toList
  clear hw hla hlb
  generalize canonT s.data.toList = a at *
  generalize canonT t.data.toList = b at *
  generalize Ver.cmp a b = c at *
  by_cases hc : c < 0
  · rw [if_pos hc] at hm
    have HX : Hid ((if 0 < c then B a else B b) = B b) := by show _ = _; rw [if_neg (by omega)]
    rw [HX.out] at C4
    have e1 : ((B b).toList == (B b).toList) = true := beq_self_eq_true _
    clear hm HX
    go_enter Tryd.func9, Tryd.ntmps9
    go_wp2_with fail
    refine (C1.out _).mono ?_
    rintro e w1 ⟨rfl, g1⟩
    go_wp2_with fail
    refine (C2.out _).mono ?_
    rintro e w2 ⟨rfl, g2⟩
    go_wp2_with fail
    refine (C3.out _).mono ?_
    rintro e w3 ⟨rfl, g3⟩
    go_wp2_with fail
    refine (C4.out _).mono ?_
    rintro e w4 ⟨rfl, g4⟩
    have hb := Lib.hid (HB.out.keep (((g1.trans g2).trans g3).trans g4))
    go_wp2_with fail
    refine (CA.out _ hb.out).mono ?_
    rintro e w5 ⟨rfl, g5⟩
    go_wp2
    go_ret
    exact ⟨rfl, ((((g1.trans g2).trans g3).trans g4).trans g5).below⟩
  · rw [if_neg hc] at hm
    have HX : Hid ((if 0 < c then B a else B b) = B a) := by
      show _ = _
      by_cases h0 : 0 < c
      · rw [if_pos h0]
      · rw [if_neg h0] at hm ⊢; rw [hm]
    rw [HX.out] at C4
    have e1 : ((B a).toList == (B a).toList) = true := beq_self_eq_true _
    clear hm HX
    go_enter Tryd.func9, Tryd.ntmps9
    go_wp2_with fail
    refine (C1.out _).mono ?_
    rintro e w1 ⟨rfl, g1⟩
    go_wp2_with fail
    refine (C2.out _).mono ?_
    rintro e w2 ⟨rfl, g2⟩
    go_wp2_with fail
    refine (C3.out _).mono ?_
    rintro e w3 ⟨rfl, g3⟩
    go_wp2_with fail
    refine (C4.out _).mono ?_
    rintro e w4 ⟨rfl, g4⟩
    have hb := Lib.hid (HB.out.keep (((g1.trans g2).trans g3).trans g4))
    go_wp2_with fail
    refine (CA.out _ hb.out).mono ?_
    rintro e w5 ⟨rfl, g5⟩
    go_wp2
    go_ret
    exact ⟨rfl, ((((g1.trans g2).trans g3).trans g4).trans g5).below⟩
end Go.Proofs.YtfpboapgfbehlaaDoor
