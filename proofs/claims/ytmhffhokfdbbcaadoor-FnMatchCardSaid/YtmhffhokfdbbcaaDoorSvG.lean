/- Walks of package semver: Compare, Major, MajorMinor, Prerelease, Build, IsValid; and of the thin package's calls of them. -/
import Derived.Test.YtmhffhokfdbbcaaDoorSvF
namespace Go.Proofs.YtmhffhokfdbbcaaDoor
open Go.RowKit Str Ver
set_option linter.unusedVariables false

/-- blocks that were there hold what they held -/
theorem Gr.cells {w w' : World} (h : Gr w w') : (∀ b o, b < w.heap.size → w'.cell? ⟨b, o, none⟩ = w.cell? ⟨b, o, none⟩) ∧ (∀ b o, b < w.heap.size → w'.frozen? ⟨b, o, none⟩ = w.frozen? ⟨b, o, none⟩) ∧ w.heap.size ≤ w'.heap.size :=
  ⟨fun b o hb => h.below.cell (p := ⟨b, o, none⟩) hb, fun b o hb => h.below.frozen (p := ⟨b, o, none⟩) hb, h.below.size⟩

theorem num_split {l d r : List UInt8} (h : num l = some (d, r)) : l = d ++ r := by
  unfold num at h
  simp only at h
  split at h
  · cases h
  · split at h
    · cases h
    · simp only [Option.some.injEq, Prod.mk.injEq] at h
      rw [← h.1, ← h.2, List.takeWhile_append_dropWhile]

theorem head_cons {l : List UInt8} {c : UInt8} (h : l.head? = some c) : l = c :: l.tail := by
  cases l with
  | nil => cases h
  | cons d m => simp at h; simp [h]

theorem tail_shape {ma mi pa pre l : List UInt8} {v : V} (h : Ver.tail ma mi pa pre l = some v) :
    v.major = ma ∧ v.minor = mi ∧ v.patch = pa ∧ v.short = [] ∧ v.pre = pre ∧ v.build = l ∧ (l = [] ∨ l.head? = some 43 ∧ series false l.tail = true) := by
  unfold Ver.tail at h
  by_cases hl : l = []
  · rw [if_pos hl] at h; cases h; exact ⟨rfl, rfl, rfl, rfl, rfl, hl.symm, .inl hl⟩
  · rw [if_neg hl] at h
    split at h
    · cases h; exact ⟨rfl, rfl, rfl, rfl, rfl, rfl, .inr (by assumption)⟩
    · cases h

/-- what a version's text is made of -/
theorem parse_shape {l : List UInt8} {v : V} (h : Ver.parse l = some v) :
    (v.short = short2 ∧ l = 118 :: v.major ∧ v.minor = Ver.zero ∧ v.patch = Ver.zero ∧ v.pre = [] ∧ v.build = []) ∨
    (v.short = short1 ∧ l = 118 :: v.major ++ 46 :: v.minor ∧ v.patch = Ver.zero ∧ v.pre = [] ∧ v.build = []) ∨
    (v.short = [] ∧ l = 118 :: v.major ++ 46 :: v.minor ++ 46 :: v.patch ++ v.pre ++ v.build ∧ (v.pre = [] ∨ ∃ a, v.pre = 45 :: a ∧ series true a = true) ∧ (v.build = [] ∨ v.build.head? = some 43 ∧ series false v.build.tail = true)) := by
  unfold Ver.parse at h
  split at h
  case isFalse => cases h
  case isTrue h0 =>
    have e0 := head_cons h0
    cases h1 : num l.tail with
    | none => rw [h1] at h; cases h
    | some x =>
      obtain ⟨d1, r1⟩ := x
      rw [h1] at h
      have s1 := num_split h1
      simp only [Option.bind_some] at h
      unfold after1 at h
      by_cases hr : r1 = []
      · rw [if_pos hr] at h; cases h
        exact .inl ⟨rfl, by rw [e0, s1, hr]; simp, rfl, rfl, rfl, rfl⟩
      rw [if_neg hr] at h
      split at h
      case isFalse => cases h
      case isTrue h2 =>
        have e1 := head_cons h2
        cases h3 : num r1.tail with
        | none => rw [h3] at h; cases h
        | some y =>
          obtain ⟨d2, r2⟩ := y
          rw [h3] at h
          have s2 := num_split h3
          simp only [Option.bind_some] at h
          unfold after2 at h
          by_cases hr2 : r2 = []
          · rw [if_pos hr2] at h; cases h
            exact .inr (.inl ⟨rfl, by rw [e0, s1, e1, s2, hr2]; simp, rfl, rfl, rfl⟩)
          rw [if_neg hr2] at h
          split at h
          case isFalse => cases h
          case isTrue h4 =>
            have e2 := head_cons h4
            cases h5 : num r2.tail with
            | none => rw [h5] at h; cases h
            | some z =>
              obtain ⟨d3, r3⟩ := z
              rw [h5] at h
              have s3 := num_split h5
              simp only [Option.bind_some] at h
              refine .inr (.inr ?_)
              by_cases h6 : r3.head? = some 45
              · have e3 := head_cons h6
                rw [rest_dash h6] at h
                split at h
                case isFalse => cases h
                case isTrue h7 =>
                  obtain ⟨q1, q2, q3, q4, q5, q6, q7⟩ := tail_shape h
                  refine ⟨q4, ?_, .inr ⟨_, q5, h7⟩, by rw [q6]; exact q7⟩
                  rw [q1, q2, q3, q5, q6, e0, s1, e1, s2, e2, s3]
                  conv => lhs; rw [e3]
                  have := List.takeWhile_append_dropWhile (p := (· != 43)) (l := r3.tail)
                  simp only [List.cons_append, List.append_assoc]
                  rw [this]
              · rw [rest_plain h6] at h
                obtain ⟨q1, q2, q3, q4, q5, q6, q7⟩ := tail_shape h
                refine ⟨q4, ?_, .inl q5, by rw [q6]; exact q7⟩
                rw [q1, q2, q3, q5, q6, e0, s1, e1, s2, e2, s3]
                simp

theorem parse_front {l : List UInt8} {v : V} (h : Ver.parse l = some v) : ∃ r, l = (118 :: v.major) ++ r := by
  rcases parse_shape h with h | h | h
  · exact ⟨[], by simp [h.2.1]⟩
  · exact ⟨46 :: v.minor, h.2.1⟩
  · exact ⟨46 :: v.minor ++ 46 :: v.patch ++ v.pre ++ v.build, by rw [h.2.1]; simp⟩

/-- no part is longer than the text, or it is a nought -/
theorem parse_lens {l : List UInt8} {v : V} (h : Ver.parse l = some v) (hl : l.length ≤ 140737488351232) :
    v.major.length ≤ 140737488351232 ∧ v.minor.length ≤ 140737488351232 ∧ v.patch.length ≤ 140737488351232 ∧ v.pre.length ≤ 140737488351232 ∧ v.build.length ≤ 140737488351232 := by
  rcases parse_shape h with ⟨_, h1, h2, h3, h4, h5⟩ | ⟨_, h1, h3, h4, h5⟩ | ⟨_, h1, _⟩ <;> (have h6 := congrArg List.length h1; simp at h6) <;> simp_all [Ver.zero] <;> omega

theorem cut_at {s : ByteArray} {a r : List UInt8} (h : s.data.toList = a ++ r) : s.extract 0 a.length = B a := by
  rw [cut_take, h, List.take_left]

theorem pre_ok {l : List UInt8} {v : V} (h : Ver.parse l = some v) : PreOk v.pre := by
  rcases parse_shape h with ⟨_, _, _, _, h, _⟩ | ⟨_, _, _, h, _⟩ | ⟨_, _, h, _⟩
  · exact .inl h
  · exact .inl h
  · rcases h with h | ⟨a, h1, h2⟩
    · exact .inl h
    · refine .inr ⟨by rw [h1]; rfl, fun x hx => ?_⟩
      rw [h1] at hx
      unfold ids at hx
      rw [if_neg (by simp), List.tail_cons] at hx
      unfold series at h2
      have := List.all_eq_true.1 h2 x hx
      intro e
      rw [e] at this
      simp [okId] at this

theorem cmpV_tell (a b : V) : cmpV a b = if Ver.figures a.major b.major = 0 then (if Ver.figures a.minor b.minor = 0 then (if Ver.figures a.patch b.patch = 0 then Ver.pre a.pre b.pre else Ver.figures a.patch b.patch) else Ver.figures a.minor b.minor) else Ver.figures a.major b.major := rfl

end Go.Proofs.YtmhffhokfdbbcaaDoor
