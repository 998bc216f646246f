/- Walks of the reference's order of two versions: order, one, Pre. -/
import Derived.Test.YtndimgajkjkgfaaDoorSpC
namespace Go.Proofs.YtndimgajkjkgfaaDoor
open Go.RowKit Str Ver
set_option linter.unusedVariables false

theorem bytes_self_less (l : List UInt8) : Op.bytesLess l l = false := by
  cases h : Op.bytesLess l l with
  | false => rfl
  | true => rw [bytesLess_bytes, good_bytes.self] at h; cases h
theorem bytes_tell3 (l m : List UInt8) : Ver.bytes l m = if Op.bytesLess l m = true then -1 else if (Op.bytesLess l m || l == m) = true then 0 else 1 := by
  by_cases e : l = m
  · subst e; rw [bytes_self_less]; simp [good_bytes.self]
  · rw [bytes_tell l m e]
    cases h : Op.bytesLess l m with
    | true => rfl
    | false => simp [e]

end Go.Proofs.YtndimgajkjkgfaaDoor
