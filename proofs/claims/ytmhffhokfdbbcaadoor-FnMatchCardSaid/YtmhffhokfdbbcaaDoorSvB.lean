/- Walks of the small functions of package semver: isIdentChar, isBadNum, isNum, nextIdent, compareInt. -/
import Derived.Test.YtmhffhokfdbbcaaDoorSvA
namespace Go.Proofs.YtmhffhokfdbbcaaDoor
open Go.RowKit Str Ver
set_option linter.unusedVariables false

theorem takeWhile_self (p : UInt8 → Bool) : ∀ l : List UInt8, l.takeWhile p = l ↔ l.all p = true
  | [] => by simp
  | c :: l => by
    have ih := takeWhile_self p l
    simp only [List.takeWhile_cons, List.all_cons]
    by_cases h : p c = true
    · rw [if_pos h, h]; simp [ih]
    · rw [if_neg h]; simp [h]

/-- what a scan for figures alone tells -/
theorem scan_all {p : UInt8 → Bool} {l : List UInt8} {k : Nat} (h : Scan p l k) (he : ∀ c, l[k]? = some c → p c = false) : l.all p = decide (k = l.length) := by
  obtain ⟨h1, h2⟩ := h.stop he
  have hk := h.1
  rw [Bool.eq_iff_iff, decide_eq_true_eq, ← takeWhile_self, h1]
  constructor
  · intro ha
    have := congrArg List.length ha
    rw [List.length_take] at this; omega
  · intro e
    rw [e, List.take_length]

def nextIdentV (l : List UInt8) : Value := .tuple #[.string (B (l.takeWhile (· != 46))), .string (B (l.dropWhile (· != 46)))]

theorem cut_take (s : ByteArray) (k : Nat) : s.extract 0 k = B (s.data.toList.take k) := by conv => lhs; rw [← B_of s]; rw [B_front]
theorem cut_drop (s : ByteArray) (k : Nat) : s.extract k s.size = B (s.data.toList.drop k) := by
  have := B_from s.data.toList k
  rw [B_of s] at this; exact this

end Go.Proofs.YtmhffhokfdbbcaaDoor
