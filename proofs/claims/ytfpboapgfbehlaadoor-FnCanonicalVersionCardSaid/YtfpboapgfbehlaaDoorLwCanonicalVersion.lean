/- A version with all three numbers, with what stands behind the plus if this is +incompatible: the walk of the law FnCanonicalVersion. -/
import Derived.Test.YtfpboapgfbehlaaDoorLwCanonical
namespace Go.Proofs.YtfpboapgfbehlaaDoor
open Go.RowKit Str Ver
set_option linter.unusedVariables false

def inc : List UInt8 := [43, 105, 110, 99, 111, 109, 112, 97, 116, 105, 98, 108, 101]
/-- the canonical form with +incompatible kept -/
def canonI (l : List UInt8) : List UInt8 := if (Ver.parse l).any (fun v => v.build == inc) then Ver.canonT l ++ inc else Ver.canonT l

theorem canonT_len {l : List UInt8} (hl : l.length ≤ 1000) : (Ver.canonT l).length ≤ 1010 := by
  unfold Ver.canonT
  cases hp : Ver.parse l with
  | none => simp
  | some v =>
    show (canon v).length ≤ 1010
    by_cases hb : v.build = []
    · have := congrArg List.length (canon_short hp hb)
      have hz : v.short.length ≤ 10 := by rcases parse_shape hp with ⟨h0, _⟩ | ⟨h0, _⟩ | ⟨h0, _⟩ <;> rw [h0] <;> decide
      simp at this; omega
    · have := congrArg List.length (canon_build hp hb)
      simp at this; omega

theorem list_beq (l m : List UInt8) : ((B l).toList == m) = decide (l = m) := by
  rw [B_list, Bool.eq_iff_iff, beq_iff_eq, decide_eq_true_eq]

set_option maxHeartbeats 2000000 in
theorem CanonicalVersion_calls (s : ByteArray) (w : World) (hs : s.size ≤ 1000) :
    Calls Tryd.prog 40 #[.string s] w fun e w' => e = .returned (.string (B (canonI s.data.toList))) ∧ Gr w w' := by
  have C1 := Lib.hid fun w => Canonical_calls s w (by omega)
  have C2 := Lib.hid fun w => Build_calls s w (by omega)
  have hl := canonT_len (l := s.data.toList) (by rw [← Lib.size_eq]; exact hs)
  obtain ⟨X, hX⟩ : ∃ X, (Ver.parse s.data.toList).elim (B []) (fun v => B v.build) = X := ⟨_, rfl⟩
  obtain ⟨b, hb⟩ : ∃ b, (Ver.parse s.data.toList).any (fun v => v.build == inc) = b := ⟨_, rfl⟩
  have hXb : (X.toList == ([43, 105, 110, 99, 111, 109, 112, 97, 116, 105, 98, 108, 101] : List UInt8)) = b := by
    rw [← hX, ← hb]
    cases Ver.parse s.data.toList with
    | none => show ((B []).toList == inc) = false; rw [B_list]; rfl
    | some v =>
      show ((B v.build).toList == inc) = (v.build == inc)
      rw [B_list]
  rw [hX] at C2
  unfold canonI
  rw [hb]
  generalize Ver.canonT s.data.toList = Y at *
  clear hX hb
  cases b with
  | true =>
    have hadd : Op.stringOp .add (B Y) (⟨#[43, 105, 110, 99, 111, 109, 112, 97, 116, 105, 98, 108, 101]⟩ : ByteArray) = pure (.string (B (Y ++ inc))) :=
      str_add (B_append Y inc) (by rw [B_size]; have : (⟨#[43, 105, 110, 99, 111, 109, 112, 97, 116, 105, 98, 108, 101]⟩ : ByteArray).size = 13 := rfl; omega)
    rw [if_pos rfl]
    go_enter Tryd.func40, Tryd.ntmps40
    go_wp2_with fail
    refine (C1.out _).mono ?_
    rintro e w1 ⟨rfl, g1⟩
    go_wp2_with fail
    refine (C2.out _).mono ?_
    rintro e w2 ⟨rfl, g2⟩
    go_wp2
    go_ret
    exact ⟨rfl, g1.trans g2⟩
  | false =>
    rw [if_neg (by simp)]
    go_enter Tryd.func40, Tryd.ntmps40
    go_wp2_with fail
    refine (C1.out _).mono ?_
    rintro e w1 ⟨rfl, g1⟩
    go_wp2_with fail
    refine (C2.out _).mono ?_
    rintro e w2 ⟨rfl, g2⟩
    go_wp2
    go_ret
    exact ⟨rfl, g1.trans g2⟩

theorem iCanonicalVersion_calls (s : ByteArray) (w : World) (hs : s.size ≤ 1000) :
    Calls Tryd.prog 24 #[.string s] w fun e w' => e = .returned (.string (B (canonI s.data.toList))) ∧ Gr w w' := by
  have H := Lib.hid (CanonicalVersion_calls s w hs)
  generalize canonI s.data.toList = X at *
  go_enter Tryd.func24, Tryd.ntmps24
  go_wp2_with fail
  refine H.out.mono ?_
  rintro e w1 ⟨rfl, hg⟩
  go_wp2
  go_ret
  exact ⟨rfl, hg⟩

set_option maxHeartbeats 4000000 in
theorem law_FnCanonicalVersion (s : ByteArray) (w : World) (hw : Bad w) (hs : s.size ≤ 140737488351232) :
    Calls Tryd.prog 8 #[.string s] w fun e w' => e = .returned (.bool true) ∧ Below w.heap.size w w' := by
  by_cases h1 : 2147483647 < s.size
  · go_enter Tryd.func8, Tryd.ntmps8
    go_wp2
    go_ret
    exact ⟨rfl, Below.refl _ _⟩
  by_cases h2 : 100 < s.size
  · go_enter Tryd.func8, Tryd.ntmps8
    go_wp2
    go_ret
    exact ⟨rfl, Below.refl _ _⟩
  have HB := Lib.hid hw
  have CA : Hid (∀ w, Bad w → Calls Tryd.prog 12 #[] w fun e w' => e = .returned (.bool true) ∧ Gr w w') := fun w hw => alive_calls w hw
  have C1 := Lib.hid fun w => iCanonicalVersion_calls s w (by omega)
  have C2 := Lib.hid fun w => spCanonical_calls s w (by omega)
  have hl := canonT_len (l := s.data.toList) (by rw [← Lib.size_eq]; omega)
  clear hw
  cases hp : Ver.parse s.data.toList with
  | none =>
    have HP := Lib.hid hp
    have hI : canonI s.data.toList = Ver.canonT s.data.toList := by unfold canonI; rw [hp]; rfl
    rw [hI] at C1
    clear hp hI hl
    generalize Ver.canonT s.data.toList = X at *
    have e1 : ((B X).toList == (B X).toList) = true := beq_self_eq_true _
    go_enter Tryd.func8, Tryd.ntmps8
    go_wp2_with fail
    refine (spParse_bad _ hs HP.out).mono ?_
    rintro e w1 ⟨rfl, g1⟩
    go_wp2_with fail
    refine (C2.out _).mono ?_
    rintro e w2 ⟨rfl, g2⟩
    go_wp2_with fail
    refine (C1.out _).mono ?_
    rintro e w3 ⟨rfl, g3⟩
    have hb := Lib.hid (HB.out.keep (((g1.alloc _).trans g2).trans g3))
    go_wp2_with fail
    refine (CA.out _ hb.out).mono ?_
    rintro e w4 ⟨rfl, g4⟩
    go_wp2
    go_ret
    exact ⟨rfl, ((((g1.alloc _).trans g2).trans g3).trans g4).below⟩
  | some v =>
    have HP := Lib.hid hp
    by_cases hbu : v.build = inc
    · have hI : canonI s.data.toList = Ver.canonT s.data.toList ++ inc := by unfold canonI; rw [hp]; show (if (v.build == inc) = true then _ else _) = _; rw [hbu, if_pos (beq_self_eq_true _)]
      rw [hI] at C1
      have e2 : ((B v.build).toList == ([43, 105, 110, 99, 111, 109, 112, 97, 116, 105, 98, 108, 101] : List UInt8)) = true := by rw [hbu, B_list]; rfl
      have hadd : Op.stringOp .add (B (Ver.canonT s.data.toList)) (B v.build) = pure (.string (B (Ver.canonT s.data.toList ++ inc))) :=
        str_add (by rw [hbu]; exact B_append _ _) (by rw [hbu, B_size, B_size]; have : inc.length = 13 := rfl; omega)
      clear hp hI hl hbu
      generalize Ver.canonT s.data.toList = X at *
      have e1 : ((B (X ++ inc)).toList == (B (X ++ inc)).toList) = true := beq_self_eq_true _
      go_enter Tryd.func8, Tryd.ntmps8
      go_wp2_with fail
      refine (spParse_good _ hs HP.out).mono ?_
      rintro e w1 ⟨rfl, g1⟩
      go_wp2_with fail
      refine (C2.out _).mono ?_
      rintro e w2 ⟨rfl, g2⟩
      have hz : w1.heap.size < w2.heap.size := by have := g2.cells.2.2; simp at this; omega
      have c5 := g2.cells.1 w1.heap.size 5 (by simp)
      simp at c5
      go_wp2_with fail
      refine (C1.out _).mono ?_
      rintro e w3 ⟨rfl, g3⟩
      have hb := Lib.hid (HB.out.keep (((g1.alloc _).trans g2).trans g3))
      go_wp2_with fail
      refine (CA.out _ hb.out).mono ?_
      rintro e w4 ⟨rfl, g4⟩
      go_wp2
      go_ret
      exact ⟨rfl, ((((g1.alloc _).trans g2).trans g3).trans g4).below⟩
    · have hI : canonI s.data.toList = Ver.canonT s.data.toList := by unfold canonI; rw [hp]; show (if (v.build == inc) = true then _ else _) = _; rw [if_neg (by simpa using hbu)]
      rw [hI] at C1
      have e2 : ((B v.build).toList == ([43, 105, 110, 99, 111, 109, 112, 97, 116, 105, 98, 108, 101] : List UInt8)) = false := by rw [list_beq]; exact decide_eq_false hbu
      clear hp hI hl hbu
      generalize Ver.canonT s.data.toList = X at *
      have e1 : ((B X).toList == (B X).toList) = true := beq_self_eq_true _
      go_enter Tryd.func8, Tryd.ntmps8
      go_wp2_with fail
      refine (spParse_good _ hs HP.out).mono ?_
      rintro e w1 ⟨rfl, g1⟩
      go_wp2_with fail
      refine (C2.out _).mono ?_
      rintro e w2 ⟨rfl, g2⟩
      have hz : w1.heap.size < w2.heap.size := by have := g2.cells.2.2; simp at this; omega
      have c5 := g2.cells.1 w1.heap.size 5 (by simp)
      simp at c5
      go_wp2_with fail
      refine (C1.out _).mono ?_
      rintro e w3 ⟨rfl, g3⟩
      have hb := Lib.hid (HB.out.keep (((g1.alloc _).trans g2).trans g3))
      go_wp2_with fail
      refine (CA.out _ hb.out).mono ?_
      rintro e w4 ⟨rfl, g4⟩
      go_wp2
      go_ret
      exact ⟨rfl, ((((g1.alloc _).trans g2).trans g3).trans g4).below⟩
end Go.Proofs.YtfpboapgfbehlaaDoor
