/- Fronts of a path, by whole parts: as the program walks them (up to the stroke behind so many) and as the reference puts them together. Plain Lean, no program in sight. -/
import Derived.Test.YtmhffhokfdbbcaaDoorVer
import Derived.Test.YtmhffhokfdbbcaaDoorGlob
namespace Go.Proofs.YtmhffhokfdbbcaaDoor
namespace Mt

/-- the front that ends ahead of the stroke behind n others; none if there are too few -/
def pre : Nat → List UInt8 → Option (List UInt8)
  | n, [] => if n = 0 then some [] else none
  | n, c :: l => if c = 47 then (match n with | 0 => some [] | m + 1 => (pre m l).map (c :: ·)) else (pre n l).map (c :: ·)

theorem split_pos (l : List UInt8) : 0 < (Ver.split 47 l).length := by
  cases h : Ver.split 47 l with
  | nil => exact absurd h (Ver.split_ne 47 l)
  | cons a r => simp

theorem pre_glue : ∀ (l : List UInt8) (n : Nat), pre n l = if n + 1 ≤ (Ver.split 47 l).length then some (Ver.glue 47 ((Ver.split 47 l).take (n + 1))) else none
  | [], n => by
    unfold pre
    have e : Ver.split 47 ([] : List UInt8) = [[]] := rfl
    rw [e]
    cases n with
    | zero => rfl
    | succ n => rw [if_neg (by omega), if_neg (by simp)]
  | c :: l, n => by
    have hp := split_pos l
    by_cases hc : c = 47
    · subst hc
      have e : Ver.split 47 (47 :: l) = [] :: Ver.split 47 l := by rw [Ver.split, if_pos rfl]
      rw [e]
      cases n with
      | zero =>
        unfold pre
        rw [if_pos rfl, if_pos (by simp)]
        rfl
      | succ n =>
        have ep : pre (n + 1) (47 :: l) = (pre n l).map (47 :: ·) := by
          show (if (47 : UInt8) = 47 then _ else _) = _
          rw [if_pos rfl]
        rw [ep, pre_glue l n]
        by_cases h : n + 1 ≤ (Ver.split 47 l).length
        · rw [if_pos h, if_pos (by simp; omega), List.take_succ_cons]
          cases hs : (Ver.split 47 l).take (n + 1) with
          | nil => rw [List.take_eq_nil_iff] at hs; rcases hs with hs | hs
                   · omega
                   · rw [hs] at hp; simp at hp
          | cons a r => rfl
        · rw [if_neg h, if_neg (by simp; omega)]; rfl
    · cases hs : Ver.split 47 l with
      | nil => exact absurd hs (Ver.split_ne 47 l)
      | cons a r =>
        have e : Ver.split 47 (c :: l) = (c :: a) :: r := by rw [Ver.split, if_neg hc, hs]
        have ep : pre n (c :: l) = (pre n l).map (c :: ·) := by
          show (if c = 47 then _ else (pre n l).map (c :: ·)) = _
          rw [if_neg hc]
        rw [e, ep, pre_glue l n, hs]
        by_cases h : n + 1 ≤ (a :: r).length
        · rw [if_pos h, if_pos (by simpa using h), List.take_succ_cons, List.take_succ_cons]
          cases r.take n <;> rfl
        · rw [if_neg h, if_neg (by simpa using h)]; rfl
end Mt
end Go.Proofs.YtmhffhokfdbbcaaDoor
