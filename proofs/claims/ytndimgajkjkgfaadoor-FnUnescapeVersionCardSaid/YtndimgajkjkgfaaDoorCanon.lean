/- Canonical forms that compare as equal are one. Plain Lean, no program in sight. -/
import Derived.Test.YtndimgajkjkgfaaDoorSvI
namespace Go.Proofs.YtndimgajkjkgfaaDoor
open Str Ver
set_option linter.unusedVariables false
namespace Ver

/-- figures without noughts ahead -/
def numOk (d : List UInt8) : Prop := d ≠ [] ∧ (∀ c ∈ d, dig c = true) ∧ ¬ (d.head? = some 48 ∧ 1 < d.length)

theorem takeWhile_mem {p : UInt8 → Bool} : ∀ l : List UInt8, ∀ c ∈ l.takeWhile p, p c = true
  | [], c, h => by cases h
  | d :: l, c, h => by
    rw [List.takeWhile_cons] at h
    split at h
    · rcases List.mem_cons.1 h with rfl | h
      · assumption
      · exact takeWhile_mem l c h
    · cases h

theorem num_ok {l d r : List UInt8} (h : num l = some (d, r)) : numOk d := by
  unfold num at h
  simp only at h
  split at h
  · cases h
  · split at h
    · cases h
    · rename_i h1 h2
      simp only [Option.some.injEq, Prod.mk.injEq] at h
      rw [← h.1]
      exact ⟨h1, takeWhile_mem l, h2⟩

theorem numOk_zero : numOk zero := by unfold numOk zero; decide

theorem take_all {p : UInt8 → Bool} : ∀ d r : List UInt8, (∀ c ∈ d, p c = true) → (∀ c, r.head? = some c → p c = false) → (d ++ r).takeWhile p = d ∧ (d ++ r).dropWhile p = r
  | [], [], _, _ => ⟨rfl, rfl⟩
  | [], c :: r, _, h => by
    have := h c rfl
    simp [this]
  | c :: d, r, h1, h2 => by
    have := h1 c List.mem_cons_self
    obtain ⟨e1, e2⟩ := take_all d r (fun x hx => h1 x (List.mem_cons_of_mem _ hx)) h2
    simp [this, e1, e2]

theorem num_app {d r : List UInt8} (h : numOk d) (hr : ∀ c, r.head? = some c → dig c = false) : num (d ++ r) = some (d, r) := by
  obtain ⟨h1, h2, h3⟩ := h
  obtain ⟨e1, e2⟩ := take_all d r h2 hr
  unfold num
  simp only [e1, e2]
  rw [if_neg h1, if_neg h3]

/-- the numbers of a version -/
theorem parse_nums {l : List UInt8} {v : V} (h : Ver.parse l = some v) : numOk v.major ∧ numOk v.minor ∧ numOk v.patch := by
  unfold Ver.parse at h
  split at h
  case isFalse => cases h
  case isTrue h0 =>
    cases h1 : num l.tail with
    | none => rw [h1] at h; cases h
    | some x =>
      obtain ⟨d1, r1⟩ := x
      rw [h1] at h
      have s1 := num_ok h1
      simp only [Option.bind_some] at h
      unfold after1 at h
      by_cases hr : r1 = []
      · rw [if_pos hr] at h; cases h
        exact ⟨s1, numOk_zero, numOk_zero⟩
      rw [if_neg hr] at h
      split at h
      case isFalse => cases h
      case isTrue h2 =>
        cases h3 : num r1.tail with
        | none => rw [h3] at h; cases h
        | some y =>
          obtain ⟨d2, r2⟩ := y
          rw [h3] at h
          have s2 := num_ok h3
          simp only [Option.bind_some] at h
          unfold after2 at h
          by_cases hr2 : r2 = []
          · rw [if_pos hr2] at h; cases h
            exact ⟨s1, s2, numOk_zero⟩
          rw [if_neg hr2] at h
          split at h
          case isFalse => cases h
          case isTrue h4 =>
            cases h5 : num r2.tail with
            | none => rw [h5] at h; cases h
            | some z =>
              obtain ⟨d3, r3⟩ := z
              rw [h5] at h
              have s3 := num_ok h5
              simp only [Option.bind_some] at h
              by_cases h6 : r3.head? = some 45
              · rw [rest_dash h6] at h
                split at h
                case isFalse => cases h
                case isTrue h7 =>
                  obtain ⟨q1, q2, q3, _⟩ := tail_shape h
                  rw [q1, q2, q3]; exact ⟨s1, s2, s3⟩
              · rw [rest_plain h6] at h
                obtain ⟨q1, q2, q3, _⟩ := tail_shape h
                rw [q1, q2, q3]; exact ⟨s1, s2, s3⟩

theorem split_mem (b : UInt8) : ∀ l : List UInt8, ∀ c ∈ l, c = b ∨ ∃ a ∈ split b l, c ∈ a
  | [], c, h => by cases h
  | d :: l, c, h => by
    rw [split]
    by_cases hd : d = b
    · rw [if_pos hd]
      rcases List.mem_cons.1 h with rfl | h
      · exact .inl hd
      · rcases split_mem b l c h with h | ⟨a, h1, h2⟩
        · exact .inl h
        · exact .inr ⟨a, List.mem_cons_of_mem _ h1, h2⟩
    · rw [if_neg hd]
      cases hs : split b l with
      | nil => exact absurd hs (split_ne b l)
      | cons x r =>
        rcases List.mem_cons.1 h with rfl | h
        · exact .inr ⟨c :: x, List.mem_cons_self, List.mem_cons_self⟩
        · rcases split_mem b l c h with h | ⟨a, h1, h2⟩
          · exact .inl h
          · right
            rw [hs] at h1
            rcases List.mem_cons.1 h1 with rfl | h1
            · exact ⟨d :: a, List.mem_cons_self, List.mem_cons_of_mem _ h2⟩
            · exact ⟨a, List.mem_cons_of_mem _ h1, h2⟩

theorem series_sign {strict : Bool} {a : List UInt8} (h : series strict a = true) : ∀ c ∈ a, (c != 43) = true := by
  intro c hc
  rw [bne_iff_ne]
  rintro rfl
  rcases split_mem 46 a 43 hc with h1 | ⟨x, h1, h2⟩
  · cases h1
  · have h3 := List.all_eq_true.1 h x h1
    unfold okId at h3
    simp only [Bool.and_eq_true] at h3
    have := List.all_eq_true.1 h3.1.2 43 h2
    cases this

theorem parse_canon {l : List UInt8} {v : V} (h : Ver.parse l = some v) : Ver.parse (canon v) = some ⟨v.major, v.minor, v.patch, [], v.pre, []⟩ := by
  obtain ⟨n1, n2, n3⟩ := parse_nums h
  have hp : v.pre = [] ∨ ∃ a, v.pre = 45 :: a ∧ series true a = true := by
    rcases parse_shape h with ⟨_, _, _, _, h4, _⟩ | ⟨_, _, _, h4, _⟩ | ⟨_, _, h4, _⟩
    · exact .inl h4
    · exact .inl h4
    · exact h4
  have e : canon v = 118 :: (v.major ++ (46 :: (v.minor ++ (46 :: (v.patch ++ v.pre))))) := by unfold canon; simp
  have hd : ∀ (t : List UInt8) (c : UInt8), (46 :: t).head? = some c → dig c = false := fun t c hc => by
    have hc : some (46 : UInt8) = some c := hc
    rw [← Option.some.inj hc]; decide
  rw [e, parse_yes rfl, List.tail_cons, num_app n1 (hd _), Option.bind_some, after1_yes rfl, List.tail_cons, num_app n2 (hd _), Option.bind_some, after2_yes rfl, List.tail_cons]
  rcases hp with h0 | ⟨a, h0, hs⟩
  · rw [h0, num_app n3 (fun c hc => by cases hc), Option.bind_some, rest_plain (by simp), tail_nil]
  · rw [h0, num_app n3 (fun c hc => by rw [← Option.some.inj (show some (45 : UInt8) = some c from hc)]; decide), Option.bind_some, rest_dash rfl, List.tail_cons]
    obtain ⟨e1, e2⟩ := take_all (p := (· != 43)) a [] (series_sign hs) (fun c hc => by cases hc)
    rw [List.append_nil] at e1 e2
    rw [e1, e2, if_pos hs, tail_nil]

theorem lex_zero {α : Type} {c d : α → α → Int} {a b : α} (h : Cmp.lex c d a b = 0) : c a b = 0 ∧ d a b = 0 := by
  unfold Cmp.lex at h
  split at h
  · exact ⟨by assumption, h⟩
  · exact absurd h (by assumption)

theorem pre_same {a b : List UInt8} (ha : a = [] ∨ ∃ x, a = 45 :: x) (hb : b = [] ∨ ∃ x, b = 45 :: x) (h : Ver.pre a b = 0) : a = b := by
  unfold Ver.pre at h
  rcases ha with rfl | ⟨x, rfl⟩ <;> rcases hb with rfl | ⟨y, rfl⟩
  · rfl
  · simp at h
  · simp at h
  · rw [if_neg (by simp), if_neg (by simp)] at h
    have := split_inj 46 (Cmp.list_eq one_eq _ _ h)
    rw [List.tail_cons, List.tail_cons] at this
    rw [this]

theorem canon_same {v u : V} (hv : v.pre = [] ∨ ∃ x, v.pre = 45 :: x) (hu : u.pre = [] ∨ ∃ x, u.pre = 45 :: x) (h : cmpV v u = 0) : canon v = canon u := by
  obtain ⟨h1, h⟩ := lex_zero h
  obtain ⟨h2, h⟩ := lex_zero h
  obtain ⟨h3, h4⟩ := lex_zero h
  unfold canon
  rw [figures_eq _ _ h1, figures_eq _ _ h2, figures_eq _ _ h3, pre_same hv hu h4]

theorem pre_dash {l : List UInt8} {v : V} (h : Ver.parse l = some v) : v.pre = [] ∨ ∃ x, v.pre = 45 :: x := by
  rcases parse_shape h with ⟨_, _, _, _, h4, _⟩ | ⟨_, _, _, h4, _⟩ | ⟨_, _, h4, _⟩
  · exact .inl h4
  · exact .inl h4
  · rcases h4 with h4 | ⟨a, h4, _⟩
    · exact .inl h4
    · exact .inr ⟨a, h4⟩

/-- canonical forms that compare as equal are one -/
theorem canonT_same {l m : List UInt8} (h : Ver.cmp (canonT l) (canonT m) = 0) : canonT l = canonT m := by
  unfold canonT at *
  cases hl : Ver.parse l with
  | none =>
    cases hm : Ver.parse m with
    | none => rfl
    | some u =>
      rw [hl, hm] at h
      unfold Ver.cmp at h
      simp only [Option.elim_none, Option.elim_some] at h
      rw [parse_canon hm] at h
      cases h
  | some v =>
    cases hm : Ver.parse m with
    | none =>
      rw [hl, hm] at h
      unfold Ver.cmp at h
      simp only [Option.elim_none, Option.elim_some] at h
      rw [parse_canon hl] at h
      cases h
    | some u =>
      rw [hl, hm] at h
      unfold Ver.cmp at h
      simp only [Option.elim_some] at h
      rw [parse_canon hl, parse_canon hm] at h
      exact canon_same (pre_dash hl) (pre_dash hm) h

theorem max_same (l m : List UInt8) : (if Ver.cmp (canonT l) (canonT m) < 0 then canonT m else canonT l) = (if 0 < Ver.cmp (canonT l) (canonT m) then canonT l else canonT m) := by
  by_cases h0 : Ver.cmp (canonT l) (canonT m) = 0
  · have := canonT_same h0
    rw [if_neg (by omega), if_neg (by omega), this]
  · by_cases h1 : Ver.cmp (canonT l) (canonT m) < 0
    · rw [if_pos h1, if_neg (by omega)]
    · rw [if_neg h1, if_pos (by omega)]
end Ver
end Go.Proofs.YtndimgajkjkgfaaDoor
