/- Walks of the small functions of package semver: isIdentChar, isBadNum, isNum, nextIdent, compareInt. -/
import Derived.Test.YtndimgajkjkgfaaDoorSvA
namespace Go.Proofs.YtndimgajkjkgfaaDoor
open Go.RowKit Str Ver
set_option linter.unusedVariables false

set_option maxHeartbeats 1000000 in
theorem isIdentChar_calls (c : UInt8) (b : Bool) (h : idc c = b) (w : World) :
    Calls Tryd.prog 90 #[.int .u8 c.toNat] w fun e w' => e = .returned (.bool b) ∧ w = w' := by
  have hl := c.toNat_lt
  unfold idc at h
  cases b with
  | true =>
    rw [decide_eq_true_eq] at h
    rcases h with h | h | h | h
    all_goals
      have h45 : ((c.toNat : Int) == 45) = decide (c.toNat = 45) := by rw [Bool.eq_iff_iff, beq_iff_eq, decide_eq_true_eq]; omega
      have h45' : decide (c.toNat = 45) = true ∨ decide (c.toNat = 45) = false := by cases decide (c.toNat = 45) <;> simp
      rcases h45' with e | e <;> rw [e] at h45 <;> clear e
      all_goals
        go_enter Tryd.func90, Tryd.ntmps90
        go_wp2
        go_ret
        exact ⟨rfl, rfl⟩
  | false =>
    rw [decide_eq_false_iff_not] at h
    have h45 : ((c.toNat : Int) == 45) = false := beq_eq_false_iff_ne.2 (by omega)
    rcases (by omega : c.toNat < 45 ∨ (45 < c.toNat ∧ c.toNat < 48) ∨ (57 < c.toNat ∧ c.toNat < 65) ∨ (90 < c.toNat ∧ c.toNat < 97) ∨ 122 < c.toNat) with h' | h' | h' | h' | h'
    all_goals
      clear h
      go_enter Tryd.func90, Tryd.ntmps90
      go_wp2
      go_ret
      exact ⟨ret_bool (by first | rfl | (simp; omega)), rfl⟩

theorem takeWhile_self (p : UInt8 → Bool) : ∀ l : List UInt8, l.takeWhile p = l ↔ l.all p = true
  | [] => by simp
  | c :: l => by
    have ih := takeWhile_self p l
    simp only [List.takeWhile_cons, List.all_cons]
    by_cases h : p c = true
    · rw [if_pos h, h]; simp [ih]
    · rw [if_neg h]; simp [h]

/-- what a scan for figures alone tells -/
theorem scan_all {p : UInt8 → Bool} {l : List UInt8} {k : Nat} (h : Scan p l k) (he : ∀ c, l[k]? = some c → p c = false) : l.all p = decide (k = l.length) := by
  obtain ⟨h1, h2⟩ := h.stop he
  have hk := h.1
  rw [Bool.eq_iff_iff, decide_eq_true_eq, ← takeWhile_self, h1]
  constructor
  · intro ha
    have := congrArg List.length ha
    rw [List.length_take] at this; omega
  · intro e
    rw [e, List.take_length]

def nextIdentV (l : List UInt8) : Value := .tuple #[.string (B (l.takeWhile (· != 46))), .string (B (l.dropWhile (· != 46)))]

theorem cut_take (s : ByteArray) (k : Nat) : s.extract 0 k = B (s.data.toList.take k) := by conv => lhs; rw [← B_of s]; rw [B_front]
theorem cut_drop (s : ByteArray) (k : Nat) : s.extract k s.size = B (s.data.toList.drop k) := by
  have := B_from s.data.toList k
  rw [B_of s] at this; exact this

end Go.Proofs.YtndimgajkjkgfaaDoor
