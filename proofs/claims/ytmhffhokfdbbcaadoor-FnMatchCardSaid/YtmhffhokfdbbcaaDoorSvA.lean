/- Walks of the small functions of package semver: parseInt. -/
import Derived.Test.YtmhffhokfdbbcaaDoorProg
import Derived.Test.YtmhffhokfdbbcaaDoorVer
import Derived.Test.YtmhffhokfdbbcaaDoorBs
import Derived.WalkKit
import Derived.RowKit3
import Derived.Deep.LoopGhost
import Derived.Deep.QuietTactic
import Derived.BigQuiet
import Derived.WalkLawsBesides
import Derived.WalkSpells
import Derived.Lib.Hide
import Derived.Outline
namespace Go.Proofs.YtmhffhokfdbbcaaDoor
open Go.RowKit Str Ver
set_option linter.unusedVariables false

def parseIntV (l : List UInt8) : Value := match num l with
  | some (d, r) => .tuple #[.string (B d), .string (B r), .bool true]
  | none => .tuple #[.string (B []), .string (B []), .bool false]

theorem num_first {l : List UInt8} {c : UInt8} (h : l[0]? = some c) (hc : dig c = false) : num l = none := by
  cases l with
  | nil => rfl
  | cons d m =>
    simp only [List.getElem?_cons_zero, Option.some.injEq] at h
    subst h
    simp [num, hc]

/-- figures up to a place -/
theorem num_upto {l : List UInt8} {c : UInt8} {k : Nat} (h0 : l[0]? = some c) (hk : 1 ≤ k) (hs : Scan dig l k) (he : ∀ c, l[k]? = some c → dig c = false) :
    num l = if c = 48 ∧ k ≠ 1 then none else some (l.take k, l.drop k) := by
  obtain ⟨ht, hdr⟩ := hs.stop he
  have hkl := hs.1
  unfold num
  simp only [ht, hdr]
  have hl : (l.take k).length = k := by rw [List.length_take]; omega
  have hne : l.take k ≠ [] := by intro e; rw [e] at hl; simp at hl; omega
  have hh : (l.take k).head? = some c := by
    cases l with
    | nil => simp at h0
    | cons d m =>
      obtain ⟨k, rfl⟩ : ∃ j, k = j + 1 := ⟨k - 1, by omega⟩
      simpa using h0
  rw [if_neg hne, hh, hl]
  by_cases e : c = 48
  · by_cases f : k = 1
    · rw [if_neg (by omega), if_neg (by simp [f])]
    · rw [if_pos ⟨by rw [e], by omega⟩, if_pos ⟨e, f⟩]
  · rw [if_neg (by simp [e]), if_neg (by simp [e])]

theorem parseIntV_none {l : List UInt8} (h : num l = none) : parseIntV l = .tuple #[.string (B []), .string (B []), .bool false] := by unfold parseIntV; rw [h]
theorem parseIntV_some {l d r : List UInt8} (h : num l = some (d, r)) : parseIntV l = .tuple #[.string (B d), .string (B r), .bool true] := by unfold parseIntV; rw [h]

end Go.Proofs.YtmhffhokfdbbcaaDoor
