/- Patterns between commas, and a path: what it is that one of them is of a front of whole parts. Plain Lean, no program in sight. -/
import Derived.Test.YtmhffhokfdbbcaaDoorMtP
import Derived.Lib.Strings
namespace Go.Proofs.YtmhffhokfdbbcaaDoor
namespace Mt

/-- a pattern without a stroke at its end -/
def trim (a : List UInt8) : List UInt8 := Lib.trimSuffix a [47]
/-- one pattern answers -/
def One (T a : List UInt8) : Prop := trim a ≠ [] ∧ ∃ f, pre ((trim a).count 47) T = some f ∧ Glob.Mt (trim a) f
/-- some pattern between commas answers -/
def Ans (g T : List UInt8) : Prop := ∃ a, a ∈ Ver.split 44 g ∧ One T a

theorem trim_nil : trim [] = [] := rfl
theorem One_nil (T : List UInt8) : ¬ One T [] := fun h => h.1 trim_nil
theorem Ans_nil (T : List UInt8) : ¬ Ans [] T := by
  rintro ⟨a, ha, h⟩
  have : a ∈ [([] : List UInt8)] := ha
  rw [List.mem_singleton] at this
  subst this
  exact One_nil T h

theorem Ans_cons (g T : List UInt8) : Ans g T ↔ One T (g.takeWhile (· != 44)) ∨ Ans (g.dropWhile (· != 44)).tail T := by
  unfold Ans
  rw [Ver.split_cons_eq]
  cases h : g.dropWhile (· != 44) with
  | nil =>
    constructor
    · rintro ⟨a, ha, h1⟩
      rw [List.mem_singleton] at ha
      subst ha; exact .inl h1
    · rintro (h1 | h1)
      · exact ⟨_, List.mem_singleton_self _, h1⟩
      · exact absurd h1 (Ans_nil T)
  | cons c t =>
    constructor
    · rintro ⟨a, ha, h1⟩
      rcases List.mem_cons.1 ha with rfl | ha
      · exact .inl h1
      · exact .inr ⟨a, ha, h1⟩
    · rintro (h1 | ⟨a, ha, h1⟩)
      · exact ⟨_, List.mem_cons_self, h1⟩
      · exact ⟨a, List.mem_cons_of_mem _ ha, h1⟩

theorem trim_sub {a : List UInt8} : ∀ x ∈ trim a, x ∈ a := by
  intro x hx
  unfold trim Lib.trimSuffix at hx
  split at hx
  · exact List.mem_of_mem_take hx
  · exact hx
theorem trim_le (a : List UInt8) : (trim a).length ≤ a.length := by
  unfold trim Lib.trimSuffix
  split
  · rw [List.length_take]; omega
  · omega

/-- where the walk over a path stands: so many strokes are still to come -/
theorem pre_step (n : Nat) (l : List UInt8) (c : UInt8) (hc : c ≠ 47) : pre n (c :: l) = (pre n l).map (c :: ·) := by
  show (if c = 47 then _ else (pre n l).map (c :: ·)) = _
  rw [if_neg hc]
theorem pre_stroke (n : Nat) (l : List UInt8) : pre (n + 1) (47 :: l) = (pre n l).map (47 :: ·) := by
  show (if (47 : UInt8) = 47 then _ else _) = _
  rw [if_pos rfl]
theorem pre_here (l : List UInt8) : pre 0 (47 :: l) = some [] := by
  show (if (47 : UInt8) = 47 then _ else _) = _
  rw [if_pos rfl]
theorem pre_end (n : Nat) : pre n [] = if n = 0 then some [] else none := rfl

theorem real : Ans [97, 47, 42] [97, 47, 98, 47, 99] := by
  refine ⟨[97, 47, 42], ?_, ?_, [97, 47, 98], ?_, ?_⟩
  · decide
  · decide
  · decide
  · have e : trim [97, 47, 42] = [97, 47, 42] := by decide
    rw [e, Glob.Mt_sign (by decide)]
    refine ⟨97, [47, 98], rfl, by decide, ?_⟩
    rw [Glob.Mt_sign (by decide)]
    refine ⟨47, [98], rfl, by decide, ?_⟩
    rw [Glob.Mt_star]
    exact ⟨[98], [], rfl, by decide, rfl⟩

theorem split_count (l : List UInt8) : (Ver.split 47 l).length = l.count 47 + 1 := by
  induction l with
  | nil => rfl
  | cons c l ih =>
    rw [Ver.split]
    by_cases h : c = 47
    · rw [if_pos h, List.length_cons, ih, h, List.count_cons_self]
    · rw [if_neg h, List.count_cons_of_ne h]
      cases hs : Ver.split 47 l with
      | nil => exact absurd hs (Ver.split_ne 47 l)
      | cons a r => rw [hs] at ih; simpa using ih

/-- as the reference puts the front together -/
theorem One_parts (T a : List UInt8) : One T a ↔ trim a ≠ [] ∧ (Ver.split 47 (trim a)).length ≤ (Ver.split 47 T).length ∧ Glob.Mt (trim a) (Ver.glue 47 ((Ver.split 47 T).take (Ver.split 47 (trim a)).length)) := by
  unfold One
  rw [split_count (trim a)]
  rw [pre_glue]
  refine and_congr_right fun _ => ?_
  by_cases h : (trim a).count 47 + 1 ≤ (Ver.split 47 T).length
  · rw [if_pos h]
    constructor
    · rintro ⟨f, hf, hm⟩
      cases hf
      exact ⟨h, hm⟩
    · rintro ⟨_, hm⟩; exact ⟨_, rfl, hm⟩
  · rw [if_neg h]
    constructor
    · rintro ⟨f, hf, _⟩; cases hf
    · rintro ⟨h', _⟩; exact absurd h' h
theorem glue_snoc (b : UInt8) (x : List UInt8) : ∀ l : List (List UInt8), l ≠ [] → Ver.glue b (l ++ [x]) = Ver.glue b l ++ b :: x
  | [], h => absurd rfl h
  | [a], _ => rfl
  | a :: y :: r, _ => by
    have ih := glue_snoc b x (y :: r) (by simp)
    show a ++ b :: Ver.glue b ((y :: r) ++ [x]) = (a ++ b :: Ver.glue b (y :: r)) ++ b :: x
    rw [ih]; simp
theorem glue_take_le (b : UInt8) : ∀ (L : List (List UInt8)) (m : Nat), (Ver.glue b (L.take m)).length ≤ (Ver.glue b L).length
  | [], m => by simp
  | _ :: _, 0 => by simp [Ver.glue]
  | [a], m + 1 => by simp
  | a :: y :: r, 1 => by
    show a.length ≤ (a ++ b :: Ver.glue b (y :: r)).length
    rw [List.length_append]; omega
  | a :: y :: r, m + 2 => by
    have ih := glue_take_le b (y :: r) (m + 1)
    show (a ++ b :: Ver.glue b ((y :: r).take (m + 1))).length ≤ (a ++ b :: Ver.glue b (y :: r)).length
    simp only [List.length_append, List.length_cons]; omega
theorem glue_next {L : List (List UInt8)} {j : Nat} {x : List UInt8} (h : L[j + 1]? = some x) : Ver.glue 47 (L.take (j + 2)) = Ver.glue 47 (L.take (j + 1)) ++ 47 :: x := by
  obtain ⟨hlt, hx⟩ := List.getElem?_eq_some_iff.1 h
  rw [List.take_succ_eq_append_getElem hlt, hx, glue_snoc]
  intro e
  have := congrArg List.length e
  rw [List.length_take, List.length_nil] at this
  omega
theorem part_len : ∀ (l : List UInt8), ∀ x ∈ Ver.split 47 l, x.length ≤ l.length
  | [], x, hx => by
    have : x = [] := by simpa [Ver.split] using hx
    rw [this]; exact Nat.le_refl _
  | c :: l, x, hx => by
    rw [Ver.split] at hx
    by_cases hc : c = 47
    · rw [if_pos hc] at hx
      rcases List.mem_cons.1 hx with rfl | hx
      · exact Nat.zero_le _
      · exact Nat.le_succ_of_le (part_len l x hx)
    · rw [if_neg hc] at hx
      cases hs : Ver.split 47 l with
      | nil => exact absurd hs (Ver.split_ne 47 l)
      | cons a r =>
        rw [hs] at hx
        rcases List.mem_cons.1 hx with rfl | hx
        · have := part_len l a (by rw [hs]; exact List.mem_cons_self)
          simp; exact this
        · exact Nat.le_succ_of_le (part_len l x (by rw [hs]; exact List.mem_cons_of_mem _ hx))
/-- how a pattern ahead of a comma is cut: with or without a stroke at its end -/
theorem trim_yes {a : List UInt8} (h : List.isSuffixOf [47] a = true) : trim a = a.take (a.length - 1) := by
  unfold trim Lib.trimSuffix Lib.hasSuffix; rw [if_pos h]; rfl
theorem trim_no {a : List UInt8} (h : List.isSuffixOf [47] a = false) : trim a = a := by
  unfold trim Lib.trimSuffix Lib.hasSuffix; rw [if_neg (by rw [h]; simp)]
theorem Ans_last {g T : List UInt8} (h : g.dropWhile (· != 44) = []) : Ans g T ↔ One T (g.takeWhile (· != 44)) := by
  rw [Ans_cons, h]
  exact ⟨fun h => h.elim id (fun h => absurd h (Ans_nil T)), .inl⟩
end Mt
end Go.Proofs.YtmhffhokfdbbcaaDoor
