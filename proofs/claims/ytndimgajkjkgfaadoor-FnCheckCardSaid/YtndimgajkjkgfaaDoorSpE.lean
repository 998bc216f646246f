/- Walks of the reference's order of two versions: Pre, Compare. -/
import Derived.Test.YtndimgajkjkgfaaDoorSpD
namespace Go.Proofs.YtndimgajkjkgfaaDoor
open Go.RowKit Str Ver
set_option linter.unusedVariables false

/-- one step of the order of two series -/
theorem pre_step (x y : List UInt8) : Cmp.list one (split 46 x) (split 46 y) =
    if one (x.takeWhile (· != 46)) (y.takeWhile (· != 46)) = 0 then
      (if (x.dropWhile (· != 46)).isEmpty = true then (if (y.dropWhile (· != 46)).isEmpty = true then 0 else -1)
       else if (y.dropWhile (· != 46)).isEmpty = true then 1 else Cmp.list one (split 46 (x.dropWhile (· != 46)).tail) (split 46 (y.dropWhile (· != 46)).tail))
    else one (x.takeWhile (· != 46)) (y.takeWhile (· != 46)) := by
  rw [split_cons_eq 46 x, split_cons_eq 46 y]
  have e : ∀ (a b : List UInt8) (l m : List (List UInt8)), Cmp.list one (a :: l) (b :: m) = if one a b = 0 then Cmp.list one l m else one a b := fun _ _ _ _ => rfl
  rw [e]
  congr 1
  have ne := fun t => split_ne 46 t
  cases x.dropWhile (· != 46) with
  | nil =>
    cases y.dropWhile (· != 46) with
    | nil => rfl
    | cons c t =>
      have := ne t
      cases h : split 46 t with
      | nil => exact absurd h this
      | cons a l => simp [h]; rfl
  | cons d u =>
    cases y.dropWhile (· != 46) with
    | nil =>
      have := ne u
      cases h : split 46 u with
      | nil => exact absurd h this
      | cons a l => simp [h]; rfl
    | cons c t => rfl

/-- a text cut at a point: its parts, and what they hold -/
theorem cut_parts (x : ByteArray) (w : World) (hx : x.size ≤ 140737488351232) : ∃ (A C : ByteArray) (m : Bool),
    x.data.toList.takeWhile (· != 46) = A.data.toList ∧ (x.data.toList.dropWhile (· != 46)).tail = C.data.toList ∧ (x.data.toList.dropWhile (· != 46)).isEmpty = !m ∧
    A.size ≤ 140737488351232 ∧ C.size ≤ 140737488351232 ∧ (m = true → C.size < x.size) ∧
    ∀ w, Calls Tryd.prog 42 #[.string x, .int .u8 46] w fun e w' => e = .returned (.tuple #[.string A, .string C, .bool m]) ∧ Drew w w' := by
  obtain ⟨A, hA⟩ : ∃ A : ByteArray, x.data.toList.takeWhile (· != 46) = A.data.toList := ⟨B _, (B_data _).symm⟩
  obtain ⟨C, hC⟩ : ∃ C : ByteArray, (x.data.toList.dropWhile (· != 46)).tail = C.data.toList := ⟨B _, (B_data _).symm⟩
  obtain ⟨m, hm⟩ : ∃ m, (!(x.data.toList.dropWhile (· != 46)).isEmpty) = m := ⟨_, rfl⟩
  have hAs : A.size ≤ 140737488351232 := by
    have := (List.takeWhile_sublist (· != 46) (l := x.data.toList)).length_le
    rw [hA, ← Lib.size_eq, ← Lib.size_eq] at this; omega
  have hCs : C.size ≤ 140737488351232 := by
    have := (List.dropWhile_sublist (· != 46) (l := x.data.toList)).length_le
    have h2 := congrArg List.length hC
    rw [List.length_tail, ← Lib.size_eq] at h2
    rw [← Lib.size_eq] at this; omega
  have hCx : m = true → C.size < x.size := by
    intro e
    have := (List.dropWhile_sublist (· != 46) (l := x.data.toList)).length_le
    have h2 := congrArg List.length hC
    rw [List.length_tail, ← Lib.size_eq] at h2
    rw [← Lib.size_eq] at this
    rw [e] at hm
    cases hd : x.data.toList.dropWhile (· != 46) with
    | nil => rw [hd] at hm; simp at hm
    | cons c t => rw [hd] at this h2; simp at this h2; omega
  exact ⟨A, C, m, hA, hC, by rw [← hm, Bool.not_not], hAs, hCs, hCx, fun w => Cut_tell w rfl hx hA hC hm⟩

end Go.Proofs.YtndimgajkjkgfaaDoor
