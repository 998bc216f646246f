/- The walk of package semver's comparePrerelease. -/
import Derived.Test.YtmhffhokfdbbcaaDoorSvE
namespace Go.Proofs.YtmhffhokfdbbcaaDoor
open Go.RowKit Str Ver
set_option linter.unusedVariables false

/-- the identifiers behind a first sign -/
def ids (l : List UInt8) : List (List UInt8) := if l = [] then [] else split 46 l.tail

theorem ids_cons {l : List UInt8} (h : l ≠ []) : ids l = l.tail.takeWhile (· != 46) :: ids (l.tail.dropWhile (· != 46)) := by
  unfold ids
  rw [if_neg h, split_cons_eq]
  congr 1
  cases l.tail.dropWhile (· != 46) with
  | nil => rfl
  | cons c t => simp

theorem drop_head {l : List UInt8} : l.dropWhile (· != 46) = [] ∨ (l.dropWhile (· != 46)).head? = some 46 := by
  induction l with
  | nil => exact .inl rfl
  | cons c l ih =>
    simp only [List.dropWhile_cons]
    by_cases h : (c != 46) = true
    · rw [if_pos h]; exact ih
    · rw [if_neg h]; right; simp at h; simp [h]

/-- what may stand behind a version's dash, with it -/
def PreOk (l : List UInt8) : Prop := l = [] ∨ (l.head? = some 45 ∧ ∀ a ∈ ids l, a ≠ [])

theorem pre_ids (l m : List UInt8) (hl : l ≠ []) (hm : m ≠ []) : Ver.pre l m = Cmp.list one (ids l) (ids m) := by
  unfold Ver.pre ids; rw [if_neg hl, if_neg hm, if_neg hl, if_neg hm]

/-- two texts that are unlike, and begin alike -/
def Unlike (l m : List UInt8) : Prop := l ≠ m ∧ (l = [] ∨ m = [] ∨ l.head? = m.head?)

theorem Unlike.next {l m : List UInt8} (h : Unlike l m) (hl : l ≠ []) (hm : m ≠ []) (hd : l.tail.takeWhile (· != 46) = m.tail.takeWhile (· != 46)) :
    Unlike (l.tail.dropWhile (· != 46)) (m.tail.dropWhile (· != 46)) := by
  refine ⟨fun e => ?_, ?_⟩
  · apply h.1
    have h1 := List.takeWhile_append_dropWhile (p := (· != 46)) (l := l.tail)
    have h2 := List.takeWhile_append_dropWhile (p := (· != 46)) (l := m.tail)
    rw [hd, e, h2] at h1
    rcases h.2 with h3 | h3 | h3
    · exact absurd h3 hl
    · exact absurd h3 hm
    · cases l with
      | nil => exact absurd rfl hl
      | cons c l =>
        cases m with
        | nil => exact absurd rfl hm
        | cons d m => simp at h3 h1; rw [h3, h1]
  · rcases drop_head (l := l.tail) with h1 | h1
    · exact .inl h1
    · rcases drop_head (l := m.tail) with h2 | h2
      · exact .inr (.inl h2)
      · exact .inr (.inr (by rw [h1, h2]))

theorem figs_of {a : List UInt8} (h : a ≠ []) : figs a = a.all dig := by
  unfold figs
  cases a with
  | nil => exact absurd rfl h
  | cons c a => simp

theorem one_tell {a b : List UInt8} (ha : a ≠ []) (hb : b ≠ []) (h : a ≠ b) : one a b =
    if a.all dig = true then (if b.all dig = true then (if a.length < b.length then -1 else if b.length < a.length then 1 else if Op.bytesLess a b = true then -1 else 1) else -1)
    else if b.all dig = true then 1 else if Op.bytesLess a b = true then -1 else 1 := by
  unfold one
  rw [figs_of ha, figs_of hb, figures_tell, if_neg h, bytes_tell a b h]

theorem list_eq_step {a b : List UInt8} {l m : List (List UInt8)} (h : a = b) : Cmp.list one (a :: l) (b :: m) = Cmp.list one l m := by
  subst h
  have : Cmp.list one (a :: l) (a :: m) = if one a a = 0 then Cmp.list one l m else one a a := rfl
  rw [this, if_pos (good_one.self a)]
theorem list_ne_step {a b : List UInt8} {l m : List (List UInt8)} (h : a ≠ b) : Cmp.list one (a :: l) (b :: m) = one a b := by
  have : Cmp.list one (a :: l) (b :: m) = if one a b = 0 then Cmp.list one l m else one a b := rfl
  rw [this, if_neg (fun e => h (one_eq a b e))]

theorem eq_B (l m : List UInt8) : ((B l).toList == (B m).toList) = decide (l = m) := by rw [eq_list, B_data, B_data]
theorem ne_B (l m : List UInt8) : ((B l).toList != (B m).toList) = !decide (l = m) := by rw [bne, eq_B]
theorem list_of_size {s : ByteArray} (h : 0 < s.size) : s.data.toList ≠ [] := by intro e; rw [Lib.size_eq, e] at h; simp at h

end Go.Proofs.YtmhffhokfdbbcaaDoor
