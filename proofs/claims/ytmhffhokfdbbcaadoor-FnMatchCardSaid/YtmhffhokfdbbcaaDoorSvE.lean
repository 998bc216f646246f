/- Walks of package semver: compareInt, comparePrerelease, Compare; and the plain words on the order that they compute. -/
import Derived.Test.YtmhffhokfdbbcaaDoorSvD
namespace Go.Proofs.YtmhffhokfdbbcaaDoor
open Go.RowKit Str Ver
set_option linter.unusedVariables false

theorem num_lt {a b : Int} (h : a < b) : Cmp.num a b = -1 := by unfold Cmp.num; rw [if_pos h]
theorem num_gt {a b : Int} (h : b < a) : Cmp.num a b = 1 := by unfold Cmp.num; rw [if_neg (by omega), if_pos h]
theorem num_eq' {a b : Int} (h : a = b) : Cmp.num a b = 0 := by unfold Cmp.num; rw [if_neg (by omega), if_neg (by omega)]

theorem bytes_cons (a b : UInt8) (l m : List UInt8) : Ver.bytes (a :: l) (b :: m) = if a.toNat < b.toNat then -1 else if b.toNat < a.toNat then 1 else Ver.bytes l m := by
  have e : Ver.bytes (a :: l) (b :: m) = if Cmp.num a.toNat b.toNat = 0 then Ver.bytes l m else Cmp.num a.toNat b.toNat := rfl
  rw [e]
  by_cases h1 : a.toNat < b.toNat
  · rw [num_lt (by omega), if_pos h1]; rfl
  · rw [if_neg h1]
    by_cases h2 : b.toNat < a.toNat
    · rw [num_gt (by omega), if_pos h2]; rfl
    · rw [num_eq' (by omega), if_neg h2]; rfl

theorem bytesLess_bytes : ∀ l m : List UInt8, Op.bytesLess l m = true ↔ Ver.bytes l m = -1
  | [], [] => by simp [Op.bytesLess, Ver.bytes, Cmp.list]
  | [], _ :: _ => by simp [Op.bytesLess, Ver.bytes, Cmp.list]
  | _ :: _, [] => by simp [Op.bytesLess, Ver.bytes, Cmp.list]
  | a :: l, b :: m => by
    have ih := bytesLess_bytes l m
    rw [bytes_cons]
    simp only [Op.bytesLess, Bool.or_eq_true, decide_eq_true_eq, Bool.and_eq_true, beq_iff_eq, UInt8.lt_iff_toNat_lt]
    by_cases h1 : a.toNat < b.toNat
    · rw [if_pos h1]; simp [h1]
    · rw [if_neg h1]
      by_cases h2 : b.toNat < a.toNat
      · rw [if_pos h2]
        have : a ≠ b := by rintro rfl; omega
        simp [this]; omega
      · rw [if_neg h2, ← ih]
        have : a = b := UInt8.toNat_inj.1 (by omega)
        simp [this]

/-- the three answers -/
theorem bytes_three : ∀ l m : List UInt8, Ver.bytes l m = -1 ∨ Ver.bytes l m = 0 ∨ Ver.bytes l m = 1
  | [], [] => by simp [Ver.bytes, Cmp.list]
  | [], _ :: _ => by simp [Ver.bytes, Cmp.list]
  | _ :: _, [] => by simp [Ver.bytes, Cmp.list]
  | a :: l, b :: m => by
    have ih := bytes_three l m
    rw [bytes_cons]
    split
    · simp
    · split
      · simp
      · exact ih

theorem bytes_tell (l m : List UInt8) (h : l ≠ m) : Ver.bytes l m = if Op.bytesLess l m = true then -1 else 1 := by
  have h1 := bytesLess_bytes l m
  have h2 := bytes_three l m
  have h3 : Ver.bytes l m ≠ 0 := fun e => h (bytes_eq l m e)
  by_cases h4 : Op.bytesLess l m = true
  · rw [if_pos h4]; exact h1.1 h4
  · rw [if_neg h4]
    rcases h2 with h2 | h2 | h2
    · exact absurd (h1.2 h2) h4
    · exact absurd h2 h3
    · exact h2

theorem figures_tell (l m : List UInt8) : Ver.figures l m = if l = m then 0 else if l.length < m.length then -1 else if m.length < l.length then 1 else if Op.bytesLess l m = true then -1 else 1 := by
  have e : Ver.figures l m = if Cmp.num l.length m.length = 0 then Ver.bytes l m else Cmp.num l.length m.length := rfl
  rw [e]
  by_cases e : l = m
  · subst e; rw [if_pos rfl, num_eq' rfl]; exact good_bytes.self l
  · rw [if_neg e]
    by_cases h1 : l.length < m.length
    · rw [if_pos h1, num_lt (by omega)]; rfl
    · rw [if_neg h1]
      by_cases h2 : m.length < l.length
      · rw [if_pos h2, num_gt (by omega)]; rfl
      · rw [if_neg h2, num_eq' (by omega)]; exact bytes_tell l m e

theorem eq_list {s t : ByteArray} : (s.toList == t.toList) = decide (s.data.toList = t.data.toList) := by
  rw [Lib.toList_data, Lib.toList_data, Bool.eq_iff_iff, beq_iff_eq, decide_eq_true_eq]

end Go.Proofs.YtmhffhokfdbbcaaDoor
