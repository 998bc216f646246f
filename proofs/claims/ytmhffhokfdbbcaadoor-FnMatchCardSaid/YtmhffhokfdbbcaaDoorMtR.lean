/- The table of a pattern and a text, row by row: what a row is, and how the next one is filled from left to right. Plain Lean, no program in sight. -/
import Derived.Test.YtmhffhokfdbbcaaDoorGlob
namespace Go.Proofs.YtmhffhokfdbbcaaDoor
namespace Mt

/-- a row: which fronts of a text are of a front of a pattern -/
def Row (p s : List UInt8) (i : Nat) (u : List Bool) : Prop := u.length = s.length + 1 ∧ ∀ j b, u[j]? = some b → (b = true ↔ Glob.Mt (p.take i) (s.take j))
/-- the next row, filled up to a place -/
def Up (p s : List UInt8) (i k : Nat) (v : List Bool) : Prop :=
  v.length = s.length + 1 ∧ (∀ j b, j < k → v[j]? = some b → (b = true ↔ Glob.Mt (p.take (i + 1)) (s.take j))) ∧ (∀ j b, k ≤ j → v[j]? = some b → b = false)

theorem Row.start (p s : List UInt8) : Row p s 0 ((List.replicate (s.length + 1) false).set 0 true) := by
  refine ⟨by simp, fun j b hj => ?_⟩
  rw [List.take_zero]
  show _ ↔ s.take j = []
  rw [List.take_eq_nil_iff]
  obtain ⟨hlt, hb⟩ := List.getElem?_eq_some_iff.1 hj
  rw [List.getElem_set] at hb
  by_cases h0 : j = 0
  · subst h0
    rw [if_pos rfl] at hb
    exact ⟨fun _ => .inl rfl, fun _ => hb.symm⟩
  · rw [if_neg (fun e => h0 e.symm), List.getElem_replicate] at hb
    subst hb
    refine ⟨fun h => (by cases h), fun h => ?_⟩
    rcases h with h | h
    · exact absurd h h0
    · subst h; simp at hlt; exact absurd hlt h0

theorem Up.start (p s : List UInt8) (i : Nat) : Up p s i 0 (List.replicate (s.length + 1) false) := by
  refine ⟨by simp, fun j b h => absurd h (by omega), fun j b _ hj => ?_⟩
  obtain ⟨hlt, hb⟩ := List.getElem?_eq_some_iff.1 hj
  rw [List.getElem_replicate] at hb; exact hb.symm

theorem Up.put {p s : List UInt8} {i k : Nat} {v : List Bool} (h : Up p s i k v) (hk : k ≤ s.length) {val : Bool} (hv : val = true ↔ Glob.Mt (p.take (i + 1)) (s.take k)) : Up p s i (k + 1) (v.set k val) := by
  obtain ⟨h1, h2, h3⟩ := h
  refine ⟨by simpa using h1, fun j b hj hb => ?_, fun j b hj hb => ?_⟩
  · by_cases e : j = k
    · subst e
      rw [List.getElem?_set_self (by omega)] at hb
      cases hb; exact hv
    · rw [List.getElem?_set_ne (Ne.symm e)] at hb
      exact h2 j b (by omega) hb
  · rw [List.getElem?_set_ne (by omega)] at hb
    exact h3 j b (by omega) hb

theorem Up.pass {p s : List UInt8} {i k : Nat} {v : List Bool} (h : Up p s i k v) (hv : ¬ Glob.Mt (p.take (i + 1)) (s.take k)) : Up p s i (k + 1) v := by
  obtain ⟨h1, h2, h3⟩ := h
  refine ⟨h1, fun j b hj hb => ?_, fun j b hj hb => h3 j b (by omega) hb⟩
  by_cases e : j = k
  · subst e
    rw [h3 j b (Nat.le_refl _) hb]
    exact ⟨fun h => (by cases h), fun h => absurd h hv⟩
  · exact h2 j b (by omega) hb

theorem Up.full {p s : List UInt8} {i k : Nat} {v : List Bool} (h : Up p s i k v) (hk : s.length < k) : Row p s (i + 1) v := by
  obtain ⟨h1, h2, _⟩ := h
  refine ⟨h1, fun j b hb => h2 j b ?_ hb⟩
  obtain ⟨hlt, _⟩ := List.getElem?_eq_some_iff.1 hb
  omega

theorem take_snoc {l : List UInt8} {i : Nat} {c : UInt8} (h : l[i]? = some c) : l.take (i + 1) = l.take i ++ [c] := by
  obtain ⟨hlt, hc⟩ := List.getElem?_eq_some_iff.1 h
  rw [List.take_succ_eq_append_getElem hlt, hc]

theorem star_zero {p s : List UInt8} {i : Nat} (hp : p[i]? = some 42) : Glob.Mt (p.take (i + 1)) (s.take 0) ↔ Glob.Mt (p.take i) (s.take 0) := by
  rw [take_snoc hp, List.take_zero, Glob.Mt_snoc_star_nil]
theorem star_next {p s : List UInt8} {i k : Nat} {d : UInt8} (hp : p[i]? = some 42) (hs : s[k]? = some d) :
    Glob.Mt (p.take (i + 1)) (s.take (k + 1)) ↔ Glob.Mt (p.take i) (s.take (k + 1)) ∨ (d ≠ 47 ∧ Glob.Mt (p.take (i + 1)) (s.take k)) := by
  rw [take_snoc hp, take_snoc hs, Glob.Mt_snoc_star]
theorem sign_zero {p s : List UInt8} {i : Nat} {c : UInt8} (hp : p[i]? = some c) (hc : c ≠ 42) : ¬ Glob.Mt (p.take (i + 1)) (s.take 0) := by
  rw [take_snoc hp, List.take_zero]; exact Glob.Mt_snoc_sign_nil hc _
theorem sign_next {p s : List UInt8} {i k : Nat} {c d : UInt8} (hp : p[i]? = some c) (hc : c ≠ 42) (hs : s[k]? = some d) :
    Glob.Mt (p.take (i + 1)) (s.take (k + 1)) ↔ Glob.Mt (p.take i) (s.take k) ∧ Glob.ok c d = true := by
  rw [take_snoc hp, take_snoc hs, Glob.Mt_snoc_sign hc]
theorem Row.last {p s : List UInt8} {u : List Bool} (h : Row p s p.length u) {b : Bool} (hb : u[s.length]? = some b) : b = true ↔ Glob.Mt p s := by
  have := h.2 _ b hb
  rwa [List.take_length, List.take_length] at this
end Mt
end Go.Proofs.YtmhffhokfdbbcaaDoor
