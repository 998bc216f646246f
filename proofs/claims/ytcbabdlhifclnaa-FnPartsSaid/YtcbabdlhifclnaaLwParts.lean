/- The first number of a version, the first two, what stands behind the dash and behind the plus: the walk of the law, for every text. -/
import Derived.Test.YtcbabdlhifclnaaSvH
import Derived.Test.YtcbabdlhifclnaaSpC
import Derived.Deep.RegionHeld3
namespace Go.Proofs.Ytcbabdlhifclnaa
open Go.RowKit Str Ver
set_option linter.unusedVariables false

theorem iMajor_calls (s : ByteArray) (w : World) (hs : s.size ≤ 140737488351232) :
    Calls Try.prog 8 #[.string s] w fun e w' => e = .returned (.string ((Ver.parse s.data.toList).elim (B []) fun v => B (118 :: v.major))) ∧ Gr w w' := by
  generalize hX : ((Ver.parse s.data.toList).elim (B []) fun v => B (118 :: v.major)) = X
  have HC := Major_calls s w hs
  rw [hX] at HC
  clear hX
  have H := Lib.hid HC
  clear HC
  go_enter Try.func8, Try.ntmps8
  go_wp2_with fail
  refine H.out.mono ?_
  rintro e w1 ⟨rfl, hg⟩
  go_wp2
  go_ret
  exact ⟨rfl, hg⟩
theorem iMajorMinor_calls (s : ByteArray) (w : World) (hs : s.size ≤ 140737488351232) :
    Calls Try.prog 9 #[.string s] w fun e w' => e = .returned (.string ((Ver.parse s.data.toList).elim (B []) fun v => B (118 :: v.major ++ 46 :: v.minor))) ∧ Gr w w' := by
  generalize hX : ((Ver.parse s.data.toList).elim (B []) fun v => B (118 :: v.major ++ 46 :: v.minor)) = X
  have HC := MajorMinor_calls s w hs
  rw [hX] at HC
  clear hX
  have H := Lib.hid HC
  clear HC
  go_enter Try.func9, Try.ntmps9
  go_wp2_with fail
  refine H.out.mono ?_
  rintro e w1 ⟨rfl, hg⟩
  go_wp2
  go_ret
  exact ⟨rfl, hg⟩
theorem iPrerelease_calls (s : ByteArray) (w : World) (hs : s.size ≤ 140737488351232) :
    Calls Try.prog 10 #[.string s] w fun e w' => e = .returned (.string ((Ver.parse s.data.toList).elim (B []) fun v => B v.pre)) ∧ Gr w w' := by
  generalize hX : ((Ver.parse s.data.toList).elim (B []) fun v => B v.pre) = X
  have HC := Prerelease_calls s w hs
  rw [hX] at HC
  clear hX
  have H := Lib.hid HC
  clear HC
  go_enter Try.func10, Try.ntmps10
  go_wp2_with fail
  refine H.out.mono ?_
  rintro e w1 ⟨rfl, hg⟩
  go_wp2
  go_ret
  exact ⟨rfl, hg⟩
theorem iBuild_calls (s : ByteArray) (w : World) (hs : s.size ≤ 140737488351232) :
    Calls Try.prog 11 #[.string s] w fun e w' => e = .returned (.string ((Ver.parse s.data.toList).elim (B []) fun v => B v.build)) ∧ Gr w w' := by
  generalize hX : ((Ver.parse s.data.toList).elim (B []) fun v => B v.build) = X
  have HC := Build_calls s w hs
  rw [hX] at HC
  clear hX
  have H := Lib.hid HC
  clear HC
  go_enter Try.func11, Try.ntmps11
  go_wp2_with fail
  refine H.out.mono ?_
  rintro e w1 ⟨rfl, hg⟩
  go_wp2
  go_ret
  exact ⟨rfl, hg⟩

theorem Parse_bad {s : ByteArray} (w : World) (hs : s.size ≤ 140737488351232) (h : Ver.parse s.data.toList = none) :
    Calls Try.prog 7 #[.string s] w fun e w' => e = .returned (.tuple #[.agg #[.string (B []), .string (B []), .string (B []), .string (B []), .string (B []), .string (B [])], .bool false]) ∧ Gr w w' :=
  (Parse_calls s w hs).mono fun e w' ⟨h1, h2⟩ => by
    unfold ParseS at h1; rw [h] at h1; exact ⟨h1, h2⟩
theorem Parse_good {s : ByteArray} {v : V} (w : World) (hs : s.size ≤ 140737488351232) (h : Ver.parse s.data.toList = some v) :
    Calls Try.prog 7 #[.string s] w fun e w' => e = .returned (.tuple #[.agg #[.string (B v.major), .string (B v.minor), .string (B v.patch), .string (B v.short), .string (B v.pre), .string (B v.build)], .bool true]) ∧ Gr w w' :=
  (Parse_calls s w hs).mono fun e w' ⟨h1, h2⟩ => by
    unfold ParseS at h1; rw [h] at h1; exact ⟨h1, h2⟩

theorem stringOp_add {a b : ByteArray} (h : a.size + b.size ≤ 9223372036854775807) : Op.stringOp .add a b = pure (.string (a ++ b)) := by
  simp only [Op.stringOp]
  rw [if_neg]
  rw [IntKind.max_i64]; omega
theorem keepP {w W1 W2 : World} {n : Nat} {a b c d : Value} (h : W1.cell? ⟨n, 0, none⟩ = some a ∧ W1.cell? ⟨n, 1, none⟩ = some b ∧ W1.cell? ⟨n, 4, none⟩ = some c ∧ W1.cell? ⟨n, 5, none⟩ = some d ∧ n < W1.heap.size ∧ Gr w W1) (g : Gr W1 W2) :
    W2.cell? ⟨n, 0, none⟩ = some a ∧ W2.cell? ⟨n, 1, none⟩ = some b ∧ W2.cell? ⟨n, 4, none⟩ = some c ∧ W2.cell? ⟨n, 5, none⟩ = some d ∧ n < W2.heap.size ∧ Gr w W2 := by
  obtain ⟨h0, h1, h2, h3, h4, h5⟩ := h
  exact ⟨(g.cells.1 _ _ h4).trans h0, (g.cells.1 _ _ h4).trans h1, (g.cells.1 _ _ h4).trans h2, (g.cells.1 _ _ h4).trans h3, Nat.lt_of_lt_of_le h4 g.cells.2.2, h5.trans g⟩

set_option maxHeartbeats 8000000 in
theorem law_FnParts (s : ByteArray) (w : World) (hs : s.size ≤ 140737488351232) :
    Calls Try.prog 4 #[.string s] w fun e w' => e = .returned (.bool true) ∧ Below w.heap.size w w' := by
  by_cases h1 : 2147483647 < s.size
  · go_enter Try.func4, Try.ntmps4
    go_wp2
    go_ret
    exact ⟨rfl, Below.refl _ _⟩
  by_cases h2 : 200 < s.size
  · go_enter Try.func4, Try.ntmps4
    go_wp2
    go_ret
    exact ⟨rfl, Below.refl _ _⟩
  cases hp : Ver.parse s.data.toList with
  | none =>
    have HP := Lib.hid hp
    have C1 : ∀ w, Calls Try.prog 8 #[.string s] w fun e w' => e = .returned (.string (B [])) ∧ Gr w w' := fun w => by have := iMajor_calls s w hs; rw [hp] at this; exact this
    have C2 : ∀ w, Calls Try.prog 9 #[.string s] w fun e w' => e = .returned (.string (B [])) ∧ Gr w w' := fun w => by have := iMajorMinor_calls s w hs; rw [hp] at this; exact this
    have C3 : ∀ w, Calls Try.prog 10 #[.string s] w fun e w' => e = .returned (.string (B [])) ∧ Gr w w' := fun w => by have := iPrerelease_calls s w hs; rw [hp] at this; exact this
    have C4 : ∀ w, Calls Try.prog 11 #[.string s] w fun e w' => e = .returned (.string (B [])) ∧ Gr w w' := fun w => by have := iBuild_calls s w hs; rw [hp] at this; exact this
    have C5 : ∀ w, Calls Try.prog 8 #[.string ⟨#[118, 50, 46, 49]⟩] w fun e w' => e = .returned (.string (B [118, 50])) ∧ Gr w w' := fun w => by
      have := iMajor_calls ⟨#[118, 50, 46, 49]⟩ w (by decide)
      have e : Ver.parse (⟨#[118, 50, 46, 49]⟩ : ByteArray).data.toList = some ⟨[50], [49], Ver.zero, short1, [], []⟩ := by kernel_rfl
      rw [e] at this; exact this
    have H1 := Lib.hid C1; have H2 := Lib.hid C2; have H3 := Lib.hid C3; have H4 := Lib.hid C4; have H5 := Lib.hid C5
    have e0 := toList_nil
    have e5 : ((B [118, 50]).toList == ([118, 50] : List UInt8)) = true := by rw [B_list]; rfl
    clear hp C1 C2 C3 C4 C5
    go_enter Try.func4, Try.ntmps4
    go_wp2_with fail
    refine (Parse_bad _ hs HP.out).mono ?_
    rintro e w1 ⟨rfl, g1⟩
    go_wp2_with fail
    refine (H1.out _).mono ?_
    rintro e w2 ⟨rfl, g2⟩
    go_wp2_with fail
    refine (H2.out _).mono ?_
    rintro e w3 ⟨rfl, g3⟩
    go_wp2_with fail
    refine (H3.out _).mono ?_
    rintro e w4 ⟨rfl, g4⟩
    go_wp2_with fail
    refine (H4.out _).mono ?_
    rintro e w5 ⟨rfl, g5⟩
    go_wp2_with fail
    refine (H5.out _).mono ?_
    rintro e w6 ⟨rfl, g6⟩
    go_wp2
    go_ret
    exact ⟨ret_bool (by first | rfl | exact e5), (((((((g1.alloc _).trans g2).trans g3).trans g4).trans g5).trans g6)).below⟩
  | some v =>
    have HP := Lib.hid hp
    have C1 : ∀ w, Calls Try.prog 8 #[.string s] w fun e w' => e = .returned (.string (B (118 :: v.major))) ∧ Gr w w' := fun w => by have := iMajor_calls s w hs; rw [hp] at this; exact this
    have C2 : ∀ w, Calls Try.prog 9 #[.string s] w fun e w' => e = .returned (.string (B (118 :: v.major ++ 46 :: v.minor))) ∧ Gr w w' := fun w => by have := iMajorMinor_calls s w hs; rw [hp] at this; exact this
    have C3 : ∀ w, Calls Try.prog 10 #[.string s] w fun e w' => e = .returned (.string (B v.pre)) ∧ Gr w w' := fun w => by have := iPrerelease_calls s w hs; rw [hp] at this; exact this
    have C4 : ∀ w, Calls Try.prog 11 #[.string s] w fun e w' => e = .returned (.string (B v.build)) ∧ Gr w w' := fun w => by have := iBuild_calls s w hs; rw [hp] at this; exact this
    have H1 := Lib.hid C1; have H2 := Lib.hid C2; have H3 := Lib.hid C3; have H4 := Lib.hid C4
    have q1 : (⟨#[118]⟩ : ByteArray) ++ B v.major = B (118 :: v.major) := B_append [118] _
    have q2 : B (118 :: v.major) ++ (⟨#[46]⟩ : ByteArray) = B (118 :: v.major ++ [46]) := B_append _ [46]
    have q3 : B (118 :: v.major ++ [46]) ++ B v.minor = B (118 :: v.major ++ 46 :: v.minor) := by rw [B_append]; simp
    obtain ⟨l1, l2, l3, l4, _⟩ := parse_lens hp (by rw [← Lib.size_eq]; exact hs)
    have z1 : (B v.major).size ≤ 140737488351232 := by rw [B_size]; exact l1
    have z2 : (B v.minor).size ≤ 140737488351232 := by rw [B_size]; exact l2
    have z3 : (B (118 :: v.major)).size ≤ 140737488351233 := by rw [B_size]; simp; omega
    have z4 : (B (118 :: v.major ++ [46])).size ≤ 140737488351234 := by rw [B_size]; simp; omega
    have z1' : 1 + (B v.major).size ≤ 9223372036854775807 := by omega
    have z3' : (B (118 :: v.major)).size + 1 ≤ 9223372036854775807 := by omega
    have z4' : (B (118 :: v.major ++ [46])).size + (B v.minor).size ≤ 9223372036854775807 := by omega
    have p1 : Op.stringOp .add (⟨#[118]⟩ : ByteArray) (B v.major) = pure (.string (B (118 :: v.major))) := by
      rw [← q1]; exact stringOp_add (by have : (⟨#[118]⟩ : ByteArray).size = 1 := rfl; have : (⟨#[46]⟩ : ByteArray).size = 1 := rfl; omega)
    have p2 : Op.stringOp .add (B (118 :: v.major)) (⟨#[46]⟩ : ByteArray) = pure (.string (B (118 :: v.major ++ [46]))) := by
      rw [← q2]; exact stringOp_add (by have : (⟨#[118]⟩ : ByteArray).size = 1 := rfl; have : (⟨#[46]⟩ : ByteArray).size = 1 := rfl; omega)
    have p3 : Op.stringOp .add (B (118 :: v.major ++ [46])) (B v.minor) = pure (.string (B (118 :: v.major ++ 46 :: v.minor))) := by
      rw [← q3]; exact stringOp_add (by omega)
    have b1 : ((B (118 :: v.major)).toList == (B (118 :: v.major)).toList) = true := beq_self_eq_true _
    have b2 : ((B (118 :: v.major ++ 46 :: v.minor)).toList == (B (118 :: v.major ++ 46 :: v.minor)).toList) = true := beq_self_eq_true _
    have b3 : ((B v.pre).toList == (B v.pre).toList) = true := beq_self_eq_true _
    have b4 : ((B v.build).toList == (B v.build).toList) = true := beq_self_eq_true _
    have w1' : 118 :: v.major ++ [46] = 118 :: (v.major ++ [46]) := rfl
    have w2' : 118 :: v.major ++ 46 :: v.minor = 118 :: (v.major ++ 46 :: v.minor) := rfl
    rw [w1'] at p2 p3
    rw [w2'] at p3 b2
    clear w1' w2' hp C1 C2 C3 C4 l1 l2 l3 l4 z1 z2 z3 z4 z1' z3' z4' q1 q2 q3
    go_enter Try.func4, Try.ntmps4
    go_wp2_with fail
    refine (Parse_good _ hs HP.out).mono ?_
    rintro e w1 ⟨rfl, g1⟩
    go_wp2_with fail
    go_region_held3 (fun w' => w'.cell? ⟨w1.heap.size, 0, none⟩ = some (.string (B v.major)) ∧ w'.cell? ⟨w1.heap.size, 1, none⟩ = some (.string (B v.minor)) ∧ w'.cell? ⟨w1.heap.size, 4, none⟩ = some (.string (B v.pre)) ∧ w'.cell? ⟨w1.heap.size, 5, none⟩ = some (.string (B v.build)) ∧ w1.heap.size < w'.heap.size ∧ Gr w w')
      (first
        | (refine ⟨?_, ?_, ?_, ?_, ?_, (g1.alloc _).drew⟩ <;> simp)
        | (refine keepP ?_ g5 <;> assumption)
        | (refine keepP ?_ g4 <;> assumption)
        | (refine keepP ?_ g3 <;> assumption)
        | (refine keepP ?_ g2 <;> assumption)
        | assumption)
      (first
        | (go_at_call 8; refine (H1.out _).mono ?_; rintro e w2 ⟨rfl, g2⟩)
        | (go_at_call 9; refine (H2.out _).mono ?_; rintro e w3 ⟨rfl, g3⟩)
        | (go_at_call 10; refine (H3.out _).mono ?_; rintro e w4 ⟨rfl, g4⟩)
        | (go_at_call 11; refine (H4.out _).mono ?_; rintro e w5 ⟨rfl, g5⟩))
    go_wp2
    go_ret
    exact ⟨ret_bool rfl, (((((g1.alloc _).drew.trans g2).trans g3).trans g4).trans g5).below⟩
end Go.Proofs.Ytcbabdlhifclnaa
