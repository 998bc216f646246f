/- Orders told by a number (below 0, 0, above 0): what a comparison needs so that sorting by it is sound, and that the usual ways of building comparisons keep it. Plain Lean, no program in sight. -/
import Derived.RowKit
namespace Go.Proofs.YtmhffhokfdbbcaaDoor
namespace Cmp

/-- a comparison that turns round with its arguments, and is transitive. -/
structure Good {α : Type} (c : α → α → Int) : Prop where
  anti : ∀ a b, c a b = - c b a
  trans : ∀ a b d, c a b ≤ 0 → c b d ≤ 0 → c a d ≤ 0

theorem Good.self {α : Type} {c : α → α → Int} (h : Good c) (a : α) : c a a = 0 := by have := h.anti a a; omega

/-- strictness on one side is kept. -/
theorem Good.lt_le {α : Type} {c : α → α → Int} (h : Good c) {a b d : α} (h1 : c a b < 0) (h2 : c b d ≤ 0) : c a d < 0 := by
  have h3 := h.trans a b d (by omega) h2
  by_cases e : c a d = 0
  · have h4 := h.anti a d
    have h5 := h.trans b d a h2 (by omega)
    have h6 := h.anti a b
    omega
  · omega

theorem Good.le_lt {α : Type} {c : α → α → Int} (h : Good c) {a b d : α} (h1 : c a b ≤ 0) (h2 : c b d < 0) : c a d < 0 := by
  have h3 := h.trans a b d h1 (by omega)
  by_cases e : c a d = 0
  · have h4 := h.anti a d
    have h5 := h.trans d a b (by omega) h1
    have h6 := h.anti b d
    omega
  · omega

theorem Good.eq_trans {α : Type} {c : α → α → Int} (h : Good c) {a b d : α} (h1 : c a b = 0) (h2 : c b d = 0) : c a d = 0 := by
  have h3 := h.trans a b d (by omega) (by omega)
  have h4 := h.anti a b
  have h5 := h.anti b d
  have h6 := h.trans d b a (by omega) (by omega)
  have h7 := h.anti a d
  omega

/-- first by one, then by another. -/
def lex {α : Type} (c d : α → α → Int) (a b : α) : Int := if c a b = 0 then d a b else c a b

theorem Good.lex {α : Type} {c d : α → α → Int} (hc : Good c) (hd : Good d) : Good (lex c d) := by
  constructor
  · intro a b
    have h1 := hc.anti a b
    have h2 := hd.anti a b
    unfold Cmp.lex
    by_cases e : c a b = 0
    · rw [if_pos e, if_pos (by omega)]; exact h2
    · rw [if_neg e, if_neg (by omega)]; exact h1
  · intro a b x h1 h2
    unfold Cmp.lex at *
    by_cases e : c a b = 0 <;> by_cases f : c b x = 0
    · rw [if_pos e] at h1; rw [if_pos f] at h2
      rw [if_pos (hc.eq_trans e f)]; exact hd.trans _ _ _ h1 h2
    · rw [if_neg f] at h2
      have := hc.le_lt (a := a) (b := b) (d := x) (by omega) (by omega)
      rw [if_neg (by omega)]; omega
    · rw [if_neg e] at h1
      have := hc.lt_le (a := a) (b := b) (d := x) (by omega) (by omega)
      rw [if_neg (by omega)]; omega
    · rw [if_neg e] at h1; rw [if_neg f] at h2
      have := hc.lt_le (a := a) (b := b) (d := x) (by omega) (by omega)
      rw [if_neg (by omega)]; omega

/-- by what a function makes of the arguments. -/
theorem Good.on {α β : Type} {c : β → β → Int} (h : Good c) (f : α → β) : Good (fun a b => c (f a) (f b)) :=
  ⟨fun _ _ => h.anti _ _, fun _ _ _ => h.trans _ _ _⟩

/-- by a whole number. -/
def num (a b : Int) : Int := if a < b then -1 else if b < a then 1 else 0

theorem good_num : Good num := by
  constructor
  · intro a b; unfold num; split <;> split <;> first | omega | (split <;> omega)
  · intro a b d h1 h2; unfold num at *; split at h1 <;> split at h2 <;> (repeat' split) <;> first | omega | (exfalso; split at h1 <;> omega) | (exfalso; split at h2 <;> omega) | skip
    all_goals (try split at h1) <;> (try split at h2) <;> omega

/-- lists, part by part; the shorter is less where all else is one. -/
def list {α : Type} (c : α → α → Int) : List α → List α → Int
  | [], [] => 0
  | [], _ :: _ => -1
  | _ :: _, [] => 1
  | a :: l, b :: m => if c a b = 0 then list c l m else c a b

theorem list_anti {α : Type} {c : α → α → Int} (h : Good c) : ∀ l m, list c l m = - list c m l
  | [], [] => rfl
  | [], _ :: _ => rfl
  | _ :: _, [] => rfl
  | a :: l, b :: m => by
    have h1 := h.anti a b
    have h2 := list_anti h l m
    simp only [list]
    by_cases e : c a b = 0
    · rw [if_pos e, if_pos (by omega)]; exact h2
    · rw [if_neg e, if_neg (by omega)]; exact h1

theorem list_trans {α : Type} {c : α → α → Int} (h : Good c) : ∀ l m n, list c l m ≤ 0 → list c m n ≤ 0 → list c l n ≤ 0
  | [], _, [] => fun _ _ => by simp [list]
  | [], _, _ :: _ => fun _ _ => by simp [list]
  | _ :: _, [], _ => fun h1 _ => by simp [list] at h1
  | _ :: _, _ :: _, [] => fun _ h2 => by simp [list] at h2
  | a :: l, b :: m, x :: n => fun h1 h2 => by
    simp only [list] at *
    by_cases e : c a b = 0 <;> by_cases f : c b x = 0
    · rw [if_pos e] at h1; rw [if_pos f] at h2
      rw [if_pos (h.eq_trans e f)]; exact list_trans h l m n h1 h2
    · rw [if_neg f] at h2
      have := h.le_lt (a := a) (b := b) (d := x) (by omega) (by omega)
      rw [if_neg (by omega)]; omega
    · rw [if_neg e] at h1
      have := h.lt_le (a := a) (b := b) (d := x) (by omega) (by omega)
      rw [if_neg (by omega)]; omega
    · rw [if_neg e] at h1; rw [if_neg f] at h2
      have := h.lt_le (a := a) (b := b) (d := x) (by omega) (by omega)
      rw [if_neg (by omega)]; omega

theorem Good.list {α : Type} {c : α → α → Int} (h : Good c) : Good (list c) := ⟨list_anti h, list_trans h⟩

/-- lists that compare as equal are one, if parts that compare as equal are. -/
theorem list_eq {α : Type} {c : α → α → Int} (hc : ∀ a b, c a b = 0 → a = b) : ∀ l m, list c l m = 0 → l = m
  | [], [] => fun _ => rfl
  | [], _ :: _ => fun h => by simp [list] at h
  | _ :: _, [] => fun h => by simp [list] at h
  | a :: l, b :: m => fun h => by
    simp only [list] at h
    by_cases e : c a b = 0
    · rw [if_pos e] at h; rw [hc a b e, list_eq hc l m h]
    · rw [if_neg e] at h; exact absurd h e

/-- none is the least. -/
def opt {α : Type} (c : α → α → Int) : Option α → Option α → Int
  | none, none => 0
  | none, some _ => -1
  | some _, none => 1
  | some a, some b => c a b

theorem Good.opt {α : Type} {c : α → α → Int} (h : Good c) : Good (opt c) := by
  constructor
  · intro a b; cases a <;> cases b <;> first | rfl | exact h.anti _ _
  · intro a b d h1 h2
    cases a <;> cases b <;> cases d <;> simp_all [Cmp.opt]
    exact h.trans _ _ _ h1 h2

end Cmp
end Go.Proofs.YtmhffhokfdbbcaaDoor
