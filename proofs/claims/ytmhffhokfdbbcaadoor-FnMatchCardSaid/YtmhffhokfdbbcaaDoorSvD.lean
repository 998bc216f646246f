/- The walk of package semver's parse: what a text is as a version. -/
import Derived.Test.YtmhffhokfdbbcaaDoorSvC
namespace Go.Proofs.YtmhffhokfdbbcaaDoor
open Go.RowKit Str Ver
set_option linter.unusedVariables false

/-- what parse hands back: the parts, and whether the text is a version -/
def ParseR (l : List UInt8) (e : Ending) : Prop :=
  match Ver.parse l with
  | some v => e = .returned (.tuple #[.agg #[.string (B v.major), .string (B v.minor), .string (B v.patch), .string (B v.short), .string (B v.pre), .string (B v.build)], .bool true])
  | none => ∃ a b c d f g : ByteArray, e = .returned (.tuple #[.agg #[.string a, .string b, .string c, .string d, .string f, .string g], .bool false])

theorem ParseR_none {l : List UInt8} (h : Ver.parse l = none) (a b c d f g : ByteArray) : ParseR l (.returned (.tuple #[.agg #[.string a, .string b, .string c, .string d, .string f, .string g], .bool false])) := by
  unfold ParseR; rw [h]; exact ⟨a, b, c, d, f, g, rfl⟩
theorem ParseR_some {l : List UInt8} {v : V} (h : Ver.parse l = some v) : ParseR l (.returned (.tuple #[.agg #[.string (B v.major), .string (B v.minor), .string (B v.patch), .string (B v.short), .string (B v.pre), .string (B v.build)], .bool true])) := by
  unfold ParseR; rw [h]

/-- what a part of a text holds is no longer than the text -/
theorem num_len {l d r : List UInt8} (h : num l = some (d, r)) : r.length ≤ l.length := by
  unfold num at h
  simp only at h
  split at h
  · cases h
  · split at h
    · cases h
    · simp only [Option.some.injEq, Prod.mk.injEq] at h
      rw [← h.2]
      exact (List.dropWhile_sublist _).length_le

/-- cutting the first byte off -/
theorem cut1 (s : ByteArray) : (s.extract 1 s.size).data.toList = s.data.toList.tail := by rw [Lib.extract_to_end, List.drop_one]
theorem cut1_size (s : ByteArray) : (s.extract 1 s.size).size = s.size - 1 := by rw [Lib.size_eq, cut1, List.length_tail, ← Lib.size_eq]
theorem head_at {s : ByteArray} {c : UInt8} (h : s.data.toList[0]? = some c) : s.data.toList.head? = some c := by rw [List.head?_eq_getElem?, h]
theorem tail_drop (l : List UInt8) : l.drop 1 = l.tail := List.drop_one

theorem takeWhile_true (l : List UInt8) : l.takeWhile (fun _ => true) = l := (takeWhile_self _ _).2 (by simp)
theorem dropWhile_true (l : List UInt8) : l.dropWhile (fun _ => true) = [] := by
  have := List.takeWhile_append_dropWhile (p := fun _ => true) (l := l)
  rw [takeWhile_true] at this
  exact List.append_right_eq_self.1 this
theorem take1 {l : List UInt8} {c : UInt8} (h : l[0]? = some c) : l.take 1 = [c] := by
  cases l with
  | nil => simp at h
  | cons d m => simp at h; simp [h]
theorem take1_drop {l : List UInt8} {c : UInt8} (h : l[0]? = some c) : l.take 1 ++ l.drop 1 = l := List.take_append_drop 1 l
theorem serV_all {s : ByteArray} {c : UInt8} (h : series false (s.data.toList.drop 1) = true) (hc : s.data.toList[0]? = some c) :
    serV false (fun _ => true) s.data.toList = .tuple #[.string s, .string (B []), .bool true] := by
  unfold serV
  rw [takeWhile_true, if_pos h, dropWhile_true, take1_drop hc, B_of]

end Go.Proofs.YtmhffhokfdbbcaaDoor
