/- Patterns with stars and question marks, neither of which stands for a stroke: what it is to be of a pattern, told on lists of bytes; the table that is filled row by row; and the road from left to right that takes the first place where a piece fits. Plain Lean, no program in sight. -/
import Derived.RowKit
namespace Go.Proofs.YtmhffhokfdbbcaaDoor
namespace Glob

/-- one sign of a pattern that is no star, and a byte. -/
def ok (c d : UInt8) : Bool := c == d || (c == 63 && d != 47)

/-- a text is of a pattern. -/
def Mt : List UInt8 → List UInt8 → Prop
  | [], s => s = []
  | c :: p, s => if c = 42 then ∃ a b, s = a ++ b ∧ (∀ d ∈ a, d ≠ 47) ∧ Mt p b else ∃ d t, s = d :: t ∧ ok c d = true ∧ Mt p t

theorem Mt_star (p s : List UInt8) : Mt (42 :: p) s ↔ ∃ a b, s = a ++ b ∧ (∀ d ∈ a, d ≠ 47) ∧ Mt p b := by
  simp only [Mt, if_true]

theorem Mt_sign {c : UInt8} (hc : c ≠ 42) (p s : List UInt8) : Mt (c :: p) s ↔ ∃ d t, s = d :: t ∧ ok c d = true ∧ Mt p t := by
  simp only [Mt]; rw [if_neg hc]

theorem Mt_append : ∀ (p q s : List UInt8), Mt (p ++ q) s ↔ ∃ a b, s = a ++ b ∧ Mt p a ∧ Mt q b
  | [], q, s => by
    constructor
    · intro h; exact ⟨[], s, rfl, rfl, h⟩
    · rintro ⟨a, b, rfl, h1, h2⟩
      have : a = [] := h1
      subst this; exact h2
  | c :: p, q, s => by
    by_cases hc : c = 42
    · subst hc
      rw [List.cons_append, Mt_star]
      constructor
      · rintro ⟨a, b, rfl, ha, hb⟩
        obtain ⟨b1, b2, rfl, h1, h2⟩ := (Mt_append p q b).1 hb
        exact ⟨a ++ b1, b2, by simp, (Mt_star p _).2 ⟨a, b1, rfl, ha, h1⟩, h2⟩
      · rintro ⟨a, b, rfl, h1, h2⟩
        obtain ⟨a1, a2, rfl, ha, h3⟩ := (Mt_star p _).1 h1
        exact ⟨a1, a2 ++ b, by simp, ha, (Mt_append p q _).2 ⟨a2, b, rfl, h3, h2⟩⟩
    · rw [List.cons_append, Mt_sign hc]
      constructor
      · rintro ⟨d, t, rfl, hd, ht⟩
        obtain ⟨t1, t2, rfl, h1, h2⟩ := (Mt_append p q t).1 ht
        exact ⟨d :: t1, t2, by simp, (Mt_sign hc p _).2 ⟨d, t1, rfl, hd, h1⟩, h2⟩
      · rintro ⟨a, b, rfl, h1, h2⟩
        obtain ⟨d, t, rfl, hd, h3⟩ := (Mt_sign hc p _).1 h1
        exact ⟨d, t ++ b, by simp, hd, (Mt_append p q _).2 ⟨t, b, rfl, h3, h2⟩⟩

theorem Mt_one_star (s : List UInt8) : Mt [42] s ↔ ∀ d ∈ s, d ≠ 47 := by
  rw [Mt_star]
  constructor
  · rintro ⟨a, b, rfl, ha, hb⟩
    have : b = [] := hb
    subst this; simpa using ha
  · intro h; exact ⟨s, [], by simp, h, rfl⟩

theorem Mt_one_sign {c : UInt8} (hc : c ≠ 42) (s : List UInt8) : Mt [c] s ↔ ∃ d, s = [d] ∧ ok c d = true := by
  rw [Mt_sign hc]
  constructor
  · rintro ⟨d, t, rfl, hd, ht⟩
    have : t = [] := ht
    subst this; exact ⟨d, rfl, hd⟩
  · rintro ⟨d, rfl, hd⟩; exact ⟨d, [], rfl, hd, rfl⟩

/-! ### the table: a longer front of the pattern, a longer front of the text -/

theorem Mt_snoc_star_nil (p : List UInt8) : Mt (p ++ [42]) [] ↔ Mt p [] := by
  rw [Mt_append]
  constructor
  · rintro ⟨a, b, h, h1, _⟩
    obtain ⟨rfl, rfl⟩ := List.append_eq_nil_iff.1 h.symm; exact h1
  · intro h; exact ⟨[], [], rfl, h, (Mt_one_star _).2 (by simp)⟩

theorem Mt_snoc_star (p s : List UInt8) (d : UInt8) : Mt (p ++ [42]) (s ++ [d]) ↔ Mt p (s ++ [d]) ∨ (d ≠ 47 ∧ Mt (p ++ [42]) s) := by
  rw [Mt_append, Mt_append]
  constructor
  · rintro ⟨a, b, h, h1, h2⟩
    rw [Mt_one_star] at h2
    rcases List.eq_nil_or_concat b with rfl | ⟨b', x, rfl⟩
    · left; rw [h]; simpa using h1
    · right
      rw [List.concat_eq_append, ← List.append_assoc] at h
      obtain ⟨h3, h4⟩ := List.append_inj' h rfl
      simp only [List.cons.injEq, and_true] at h4
      subst h4
      refine ⟨h2 d (by simp), a, b', h3, h1, (Mt_one_star _).2 fun y hy => h2 y (by simp [hy])⟩
  · rintro (h | ⟨hd, a, b, rfl, h1, h2⟩)
    · exact ⟨s ++ [d], [], by simp, h, (Mt_one_star _).2 (by simp)⟩
    · refine ⟨a, b ++ [d], by simp, h1, (Mt_one_star _).2 fun y hy => ?_⟩
      rcases List.mem_append.1 hy with hy | hy
      · exact (Mt_one_star _).1 h2 y hy
      · simp only [List.mem_singleton] at hy; subst hy; exact hd

theorem Mt_snoc_sign_nil {c : UInt8} (hc : c ≠ 42) (p : List UInt8) : ¬ Mt (p ++ [c]) [] := by
  rw [Mt_append]
  rintro ⟨a, b, h, _, h2⟩
  obtain ⟨d, rfl, _⟩ := (Mt_one_sign hc _).1 h2
  simp at h

theorem Mt_snoc_sign {c : UInt8} (hc : c ≠ 42) (p s : List UInt8) (d : UInt8) : Mt (p ++ [c]) (s ++ [d]) ↔ Mt p s ∧ ok c d = true := by
  rw [Mt_append]
  constructor
  · rintro ⟨a, b, h, h1, h2⟩
    obtain ⟨x, rfl, hx⟩ := (Mt_one_sign hc _).1 h2
    obtain ⟨h3, h4⟩ := List.append_inj' h rfl
    simp only [List.cons.injEq, and_true] at h4
    subst h3; subst h4; exact ⟨h1, hx⟩
  · rintro ⟨h1, h2⟩
    exact ⟨s, [d], rfl, h1, (Mt_one_sign hc _).2 ⟨d, rfl, h2⟩⟩

/-! ### the road from left to right -/

/-- a piece without a star fits at the begin of a text. -/
def fits : List UInt8 → List UInt8 → Bool
  | [], _ => true
  | _ :: _, [] => false
  | c :: p, d :: s => ok c d && fits p s

theorem Mt_piece : ∀ (p q s : List UInt8), (∀ c ∈ p, c ≠ 42) → (Mt (p ++ q) s ↔ fits p s = true ∧ Mt q (s.drop p.length))
  | [], q, s, _ => by simp [fits]
  | c :: p, q, [], hp => by
    rw [List.cons_append, Mt_sign (hp c (by simp))]
    simp [fits]
  | c :: p, q, d :: s, hp => by
    rw [List.cons_append, Mt_sign (hp c (by simp))]
    simp only [fits, Bool.and_eq_true, List.length_cons, List.drop_succ_cons]
    rw [and_assoc, ← Mt_piece p q s (fun x hx => hp x (by simp [hx]))]
    constructor
    · rintro ⟨x, t, h, h1, h2⟩
      simp only [List.cons.injEq] at h
      obtain ⟨rfl, rfl⟩ := h; exact ⟨h1, h2⟩
    · rintro ⟨h1, h2⟩; exact ⟨d, s, rfl, h1, h2⟩

theorem fits_len : ∀ (p s : List UInt8), fits p s = true → p.length ≤ s.length
  | [], _, _ => by simp
  | _ :: _, [], h => by simp [fits] at h
  | c :: p, d :: s, h => by
    simp only [fits, Bool.and_eq_true] at h
    have := fits_len p s h.2
    simp; omega

theorem fits_at : ∀ (p s : List UInt8) (i : Nat) (hi : i < p.length), fits p s = true → ∃ d, s[i]? = some d ∧ ok p[i] d = true
  | [], _, i, hi, _ => by simp at hi
  | _ :: _, [], _, _, h => by simp [fits] at h
  | c :: p, d :: s, 0, _, h => by
    simp only [fits, Bool.and_eq_true] at h
    exact ⟨d, by simp, by simpa using h.1⟩
  | c :: p, d :: s, i + 1, hi, h => by
    simp only [fits, Bool.and_eq_true] at h
    obtain ⟨x, h1, h2⟩ := fits_at p s i (by simpa using hi) h.2
    exact ⟨x, by simpa using h1, by simpa using h2⟩

/-- a stroke is told by a stroke alone. -/
theorem ok_stroke {c : UInt8} (h : ok c 47 = true) : c = 47 := by
  unfold ok at h; simp at h; exact h

theorem ok_of_stroke {d : UInt8} (h : ok 47 d = true) : d = 47 := by
  unfold ok at h; simp at h; exact h.symm

/-- where a piece fits at two places with no stroke ahead of the later one, there is none up to the later one's end. -/
theorem no_stroke (p s : List UInt8) (k : Nat) (hk0 : 0 < k) (h0 : fits p s = true) (hk : fits p (s.drop k) = true) (hs : ∀ j, j < k → s[j]? ≠ some 47) :
    ∀ j, j < k + p.length → s[j]? ≠ some 47 := by
  intro j
  induction j using Nat.strongRecOn with
  | _ j ih =>
    intro hlt hst
    by_cases hj : j < k
    · exact hs j hj hst
    · obtain ⟨d, h1, h2⟩ := fits_at p (s.drop k) (j - k) (by omega) hk
      rw [List.getElem?_drop, show k + (j - k) = j from by omega, hst] at h1
      cases h1
      have h3 := ok_stroke h2
      obtain ⟨x, h4, h5⟩ := fits_at p s (j - k) (by omega) h0
      rw [h3] at h5
      rw [ok_of_stroke h5] at h4
      exact ih (j - k) (by omega) (by omega) h4

/-- behind the earlier of two places the rest, which begins with a star, fits wherever it fits behind the later one. -/
theorem star_first (p q s : List UInt8) (o k : Nat) (h0 : fits p (s.drop o) = true) (hk : fits p (s.drop (o + k)) = true) (hs : ∀ j, j < o + k → s[j]? ≠ some 47)
    (h : Mt (42 :: q) (s.drop (o + k + p.length))) : Mt (42 :: q) (s.drop (o + p.length)) := by
  by_cases hk0 : 0 < k
  · have hn := no_stroke p (s.drop o) k hk0 h0 (by rw [List.drop_drop]; exact hk) (fun j hj => by rw [List.getElem?_drop]; exact hs _ (by omega))
    rw [Mt_star] at *
    obtain ⟨a, b, he, ha, hb⟩ := h
    refine ⟨(s.drop (o + p.length)).take k ++ a, b, ?_, ?_, hb⟩
    · rw [List.append_assoc, ← he]
      have e : s.drop (o + k + p.length) = (s.drop (o + p.length)).drop k := by rw [List.drop_drop]; congr 1; omega
      rw [e, List.take_append_drop]
    · intro d hd
      rcases List.mem_append.1 hd with hd | hd
      · obtain ⟨i, hi, rfl⟩ := List.mem_iff_getElem.1 hd
        intro e
        have hik : i < k := by have := hi; rw [List.length_take] at this; omega
        have h2 := hn (p.length + i) (by omega)
        apply h2
        rw [List.getElem_take, List.getElem_drop] at e
        rw [List.getElem?_drop]
        have hlt : o + (p.length + i) < s.length := by
          rw [List.length_take, List.length_drop] at hi; omega
        rw [List.getElem?_eq_getElem hlt]
        congr 1
        rw [← e]; congr 1; omega
      · exact ha d hd
  · obtain rfl : k = 0 := by omega
    exact h

/-- how a pattern is taken apart: stars, a piece without one, and the rest, which is empty or begins with one. -/
structure Cut (pat : List UInt8) (star : Bool) (chunk rest : List UInt8) : Prop where
  eq : ∃ k, pat = List.replicate k 42 ++ (chunk ++ rest) ∧ (star = true ↔ 0 < k)
  free : ∀ c ∈ chunk, c ≠ 42
  next : rest = [] ∨ ∃ q, rest = 42 :: q
  last : chunk = [] → rest = []

theorem Mt_stars (k : Nat) (p s : List UInt8) : Mt (List.replicate (k + 1) 42 ++ p) s ↔ ∃ a b, s = a ++ b ∧ (∀ d ∈ a, d ≠ 47) ∧ Mt p b := by
  induction k generalizing s with
  | zero => exact Mt_star p s
  | succ k ih =>
    rw [List.replicate_succ, List.cons_append, Mt_star]
    constructor
    · rintro ⟨a, b, rfl, ha, hb⟩
      obtain ⟨a1, b1, rfl, h1, h2⟩ := (ih b).1 hb
      exact ⟨a ++ a1, b1, by simp, fun d hd => (List.mem_append.1 hd).elim (ha d) (h1 d), h2⟩
    · rintro ⟨a, b, rfl, ha, hb⟩
      exact ⟨a, b, rfl, ha, (ih b).2 ⟨[], b, rfl, by simp, hb⟩⟩

theorem Cut.only_star {pat chunk rest : List UInt8} (h : Cut pat true chunk rest) (hc : chunk = []) (s : List UInt8) : Mt pat s ↔ ∀ d ∈ s, d ≠ 47 := by
  obtain ⟨k, he, hk⟩ := h.eq
  have hr := h.last hc
  subst hc; subst hr
  obtain ⟨k, rfl⟩ : ∃ m, k = m + 1 := ⟨k - 1, by have := hk.1 rfl; omega⟩
  rw [he, Mt_stars]
  constructor
  · rintro ⟨a, b, rfl, ha, hb⟩
    have : b = [] := hb
    subst this; simpa using ha
  · intro h; exact ⟨s, [], by simp, h, rfl⟩

theorem Cut.plain {pat chunk rest : List UInt8} (h : Cut pat false chunk rest) (s : List UInt8) : Mt pat s ↔ fits chunk s = true ∧ Mt rest (s.drop chunk.length) := by
  obtain ⟨k, he, hk⟩ := h.eq
  obtain rfl : k = 0 := by
    have := hk.2
    by_cases h0 : 0 < k
    · exact absurd (this h0) (by simp)
    · omega
  rw [he]
  simp only [List.replicate_zero, List.nil_append]
  exact Mt_piece chunk rest s h.free

theorem Cut.starred {pat chunk rest : List UInt8} (h : Cut pat true chunk rest) (s : List UInt8) :
    Mt pat s ↔ ∃ o, o ≤ s.length ∧ (∀ j, j < o → s[j]? ≠ some 47) ∧ fits chunk (s.drop o) = true ∧ Mt rest (s.drop (o + chunk.length)) := by
  obtain ⟨k, he, hk⟩ := h.eq
  obtain ⟨k, rfl⟩ : ∃ m, k = m + 1 := ⟨k - 1, by have := hk.1 rfl; omega⟩
  rw [he, Mt_stars]
  constructor
  · rintro ⟨a, b, rfl, ha, hb⟩
    rw [Mt_piece chunk rest b h.free] at hb
    refine ⟨a.length, by simp, fun j hj e => ?_, by simpa using hb.1, by rw [← List.drop_drop]; simpa using hb.2⟩
    rw [List.getElem?_append_left hj] at e
    exact ha 47 (List.mem_of_getElem? e) rfl
  · rintro ⟨o, ho, hs, h1, h2⟩
    refine ⟨s.take o, s.drop o, (List.take_append_drop o s).symm, fun d hd e => ?_, (Mt_piece chunk rest _ h.free).2 ⟨h1, by rw [List.drop_drop]; exact h2⟩⟩
    obtain ⟨i, hi, h3⟩ := List.mem_iff_getElem.1 hd
    rw [List.length_take] at hi
    apply hs i (by omega)
    rw [List.getElem_take] at h3
    rw [List.getElem?_eq_getElem (by omega), h3, e]

/-- the first place where the piece fits (to the end, if nothing is behind it) decides. -/
theorem Cut.first {pat chunk rest : List UInt8} (h : Cut pat true chunk rest) (s : List UInt8) (o : Nat) (ho : o ≤ s.length) (hs : ∀ j, j < o → s[j]? ≠ some 47)
    (hf : fits chunk (s.drop o) = true) (hend : rest = [] → s.drop (o + chunk.length) = [])
    (hno : ∀ i, i < o → ¬ (fits chunk (s.drop i) = true ∧ (rest = [] → s.drop (i + chunk.length) = []))) : Mt pat s ↔ Mt rest (s.drop (o + chunk.length)) := by
  rw [h.starred]
  constructor
  · rintro ⟨i, hi, hsi, h1, h2⟩
    rcases h.next with e | ⟨q, e⟩
    · rw [e]; exact hend e
    · have hle : o ≤ i := by
        by_cases hlt : i < o
        · exact absurd ⟨h1, fun e2 => by rw [e] at e2; cases e2⟩ (hno i hlt)
        · omega
      obtain ⟨k, rfl⟩ : ∃ k, i = o + k := ⟨i - o, by omega⟩
      rw [e] at h2 ⊢
      exact star_first chunk q s o k hf h1 hsi h2
  · intro h2; exact ⟨o, ho, hs, hf, h2⟩

theorem Cut.nowhere {pat chunk rest : List UInt8} (h : Cut pat true chunk rest) (s : List UInt8)
    (hno : ∀ i, i ≤ s.length → (∀ j, j < i → s[j]? ≠ some 47) → ¬ (fits chunk (s.drop i) = true ∧ (rest = [] → s.drop (i + chunk.length) = []))) : ¬ Mt pat s := by
  rw [h.starred]
  rintro ⟨i, hi, hsi, h1, h2⟩
  exact hno i hi hsi ⟨h1, fun e => by rw [e] at h2; exact h2⟩

end Glob
end Go.Proofs.YtmhffhokfdbbcaaDoor
