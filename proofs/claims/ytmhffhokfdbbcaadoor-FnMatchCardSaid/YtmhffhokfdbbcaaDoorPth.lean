/- A path's version told on lists of bytes: by the program's way and by the reference's; that they part at one ending alone. Plain Lean, no program in sight. -/
import Derived.Test.YtmhffhokfdbbcaaDoorIter
import Derived.Test.YtmhffhokfdbbcaaDoorVer
namespace Go.Proofs.YtmhffhokfdbbcaaDoor
open Str
namespace Pth
open Ver (dig)

/-- where the run of signs begins that ends at a place -/
def bk (p : UInt8 → Bool) (l : List UInt8) : Nat → Nat
  | 0 => 0
  | k + 1 => if (l[k]?).any p then bk p l k else k + 1

theorem bk_le (p : UInt8 → Bool) (l : List UInt8) : ∀ k, bk p l k ≤ k
  | 0 => Nat.le_refl _
  | k + 1 => by
    unfold bk
    split
    · exact Nat.le_succ_of_le (bk_le p l k)
    · exact Nat.le_refl _
theorem bk_yes {p : UInt8 → Bool} {l : List UInt8} {k : Nat} {c : UInt8} (h : l[k]? = some c) (hc : p c = true) : bk p l (k + 1) = bk p l k := by
  rw [bk, h]; simp [hc]
theorem bk_no {p : UInt8 → Bool} {l : List UInt8} {k : Nat} {c : UInt8} (h : l[k]? = some c) (hc : p c = false) : bk p l (k + 1) = k + 1 := by
  rw [bk, h]; simp [hc]
/-- from there on all signs are such -/
theorem bk_all (p : UInt8 → Bool) (l : List UInt8) : ∀ k j, bk p l k ≤ j → j < k → ∃ c, l[j]? = some c ∧ p c = true
  | 0, j => fun _ h => absurd h (by omega)
  | k + 1, j => fun h1 h2 => by
    unfold bk at h1
    split at h1
    case isTrue hp =>
      by_cases e : j = k
      · subst e
        rw [Option.any_eq_true] at hp; exact hp
      · exact bk_all p l k j h1 (by omega)
    case isFalse => omega

/-- figures and points -/
def dd (c : UInt8) : Bool := dig c || c == 46
def gop : List UInt8 := [103, 111, 112, 107, 103, 46, 105, 110, 47]
def uns : List UInt8 := [45, 117, 110, 115, 116, 97, 98, 108, 101]
def endOf (l : List UInt8) : Nat := if uns.isSuffixOf l then l.length - 9 else l.length

/-- the last two signs ahead of a place -/
def two (l : List UInt8) (k : Nat) (a b : UInt8) : Prop := 2 ≤ k ∧ l[k - 2]? = some a ∧ l[k - 1]? = some b

instance (l : List UInt8) (k : Nat) (a b : UInt8) : Decidable (two l k a b) := by unfold two; exact inferInstance

/-- of a path that is not of gopkg.in -/
def plainV (l : List UInt8) (k : Nat) : List UInt8 × List UInt8 × Bool :=
  if k = l.length ∨ ¬ two l k 47 118 then (l, [], true)
  else if (l.drop k).contains 46 = true ∨ l[k]? = some 48 ∨ l.drop k = [49] then (l, [], false)
  else (l.take (k - 2), l.drop (k - 2), true)
/-- of one of gopkg.in, as the program cuts it -/
def gopI (l : List UInt8) (k : Nat) : List UInt8 × List UInt8 × Bool :=
  if ¬ two l k 46 118 then (l, [], false)
  else if k = l.length ∨ (l[k]? = some 48 ∧ k + 1 ≠ l.length) then (l, [], false)
  else (l.take (k - 2), l.drop (k - 2), true)
/-- of one of gopkg.in, as the reference cuts it -/
def gopS (l : List UInt8) (e k : Nat) : List UInt8 × List UInt8 × Bool :=
  if k = e ∨ ¬ two l k 46 118 ∨ (l[k]? = some 48 ∧ k + 1 < e) then (l, [], false)
  else if l[k]? = some 48 ∧ e < l.length then (l, [], false)
  else (l.take (k - 2), l.drop (k - 2), true)
def splitI (l : List UInt8) : List UInt8 × List UInt8 × Bool :=
  if gop.isPrefixOf l then gopI l (bk dig l (endOf l)) else plainV l (bk dd l l.length)
def splitS (l : List UInt8) : List UInt8 × List UInt8 × Bool :=
  if gop.isPrefixOf l then gopS l (endOf l) (bk dig l (endOf l)) else plainV l (bk dd l l.length)

/-- a text that ends with .v-unstable -/
def behind (l : List UInt8) : Bool := ([46, 118] ++ uns).isSuffixOf l

theorem suffix_drop {t l : List UInt8} : t.isSuffixOf l = true ↔ t.length ≤ l.length ∧ l.drop (l.length - t.length) = t := by
  rw [List.isSuffixOf_iff_suffix]
  constructor
  · rintro ⟨a, rfl⟩
    refine ⟨by simp, ?_⟩
    rw [List.length_append, Nat.add_sub_cancel, List.drop_left]
  · rintro ⟨_, h⟩
    refine ⟨l.take (l.length - t.length), ?_⟩
    have e := List.take_append_drop (l.length - t.length) l
    rw [h] at e; exact e

theorem endOf_le (l : List UInt8) : endOf l ≤ l.length := by unfold endOf; split <;> omega

theorem split_same {l : List UInt8} (h : behind l = false) : splitI l = splitS l := by
  unfold splitI splitS
  by_cases hg : gop.isPrefixOf l = true
  case neg => rw [if_neg hg, if_neg hg]
  rw [if_pos hg, if_pos hg]
  obtain ⟨e, he⟩ : ∃ e, endOf l = e := ⟨_, rfl⟩
  have hel := endOf_le l
  have hb := bk_le dig l (endOf l)
  rw [he] at hel hb ⊢
  obtain ⟨k, hk⟩ : ∃ k, bk dig l e = k := ⟨_, rfl⟩
  rw [hk] at hb ⊢
  unfold gopI gopS
  by_cases ht : two l k 46 118
  case neg => rw [if_pos ht, if_pos (.inr (.inl ht))]
  rw [if_neg (fun h => h ht)]
  by_cases hke : k = e
  · have hkl : k = l.length := by
      unfold endOf at he
      split at he
      case isTrue hs =>
        exfalso
        have hs' := suffix_drop.1 hs
        have hl9 : uns.length = 9 := rfl
        rw [hl9] at hs'
        have : behind l = true := by
          unfold behind
          rw [suffix_drop]
          obtain ⟨h2, ha, hb'⟩ := ht
          have hlen : ([46, 118] ++ uns).length = 11 := rfl
          rw [hlen]
          refine ⟨by omega, ?_⟩
          have e2 : l.length - 11 = k - 2 := by omega
          obtain ⟨q1, ha⟩ := List.getElem?_eq_some_iff.1 ha
          obtain ⟨q2, hb'⟩ := List.getElem?_eq_some_iff.1 hb'
          rw [e2, List.drop_eq_getElem_cons q1]
          have e3 : k - 2 + 1 = k - 1 := by omega
          rw [e3, List.drop_eq_getElem_cons q2, ha, hb']
          have e4 : k - 1 + 1 = l.length - 9 := by omega
          rw [e4, hs'.2]; rfl
        rw [h] at this; cases this
      case isFalse => omega
    rw [if_pos (.inl hkl), if_pos (.inl hke)]
  have hkl : k ≠ l.length := by omega
  by_cases h0 : l[k]? = some 48
  · by_cases hk1 : k + 1 = l.length
    · have : e = l.length := by omega
      rw [if_neg (by rintro (h | ⟨_, h⟩) <;> omega), if_neg (by rintro (h | h | ⟨_, h⟩) <;> first | exact hke h | exact h ht | omega), if_neg (by rintro ⟨_, h⟩; omega)]
    · rw [if_pos (.inr ⟨h0, hk1⟩)]
      by_cases hk2 : k + 1 < e
      · rw [if_pos (.inr (.inr ⟨h0, hk2⟩))]
      · rw [if_neg (by rintro (h | h | ⟨_, h⟩) <;> first | exact hke h | exact h ht | exact hk2 h), if_pos ⟨h0, by omega⟩]
  · rw [if_neg (by rintro (h | ⟨h, _⟩) <;> first | exact hkl h | exact h0 h), if_neg (by rintro (h | h | ⟨h, _⟩) <;> first | exact hke h | exact h ht | exact h0 h), if_neg (fun h => h0 h.1)]

/-- what is cut is put together again -/
theorem splitI_glue (l : List UInt8) : (splitI l).1 ++ (splitI l).2.1 = l := by
  unfold splitI gopI plainV
  split <;> split <;> (try split) <;> simp
end Pth
end Go.Proofs.YtmhffhokfdbbcaaDoor
