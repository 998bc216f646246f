/- Walks of package semver: IsValid, Canonical, Max; a version's canonical form in plain words. -/
import Derived.Test.YtppnjkfeefmohaaDoorSvG
namespace Go.Proofs.YtppnjkfeefmohaaDoor
open Go.RowKit Str Ver
set_option linter.unusedVariables false

theorem str_add {a b c : ByteArray} (h : a ++ b = c) (hs : a.size + b.size ≤ 9223372036854775807) : Op.stringOp .add a b = pure (.string c) := by
  simp only [Op.stringOp]
  rw [if_neg (by rw [IntKind.max_i64]; omega), h]

namespace Ver
/-- a version with all three numbers, without what stands behind a plus -/
def canon (v : V) : List UInt8 := 118 :: v.major ++ 46 :: v.minor ++ 46 :: v.patch ++ v.pre
/-- of a text -/
def canonT (l : List UInt8) : List UInt8 := (parse l).elim [] canon

theorem canon_build {l : List UInt8} {v : V} (h : Ver.parse l = some v) (hb : v.build ≠ []) : l = canon v ++ v.build := by
  rcases parse_shape h with ⟨_, _, _, _, _, h5⟩ | ⟨_, _, _, _, h5⟩ | ⟨_, h1, _⟩
  · exact absurd h5 hb
  · exact absurd h5 hb
  · rw [h1]; rfl
theorem canon_short {l : List UInt8} {v : V} (h : Ver.parse l = some v) (hb : v.build = []) : l ++ v.short = canon v := by
  rcases parse_shape h with ⟨h0, h1, h2, h3, h4, h5⟩ | ⟨h0, h1, h3, h4, h5⟩ | ⟨h0, h1, _⟩
  · rw [h0, h1, canon, h2, h3, h4]; simp [short2, Ver.zero]
  · rw [h0, h1, canon, h3, h4]; simp [short1, Ver.zero]
  · rw [h0, h1, hb, canon]; simp
end Ver

theorem IsValid_calls (s : ByteArray) (w : World) (hs : s.size ≤ 140737488351232) :
    Calls Tryd.prog 31 #[.string s] w fun e w' => e = .returned (.bool (Ver.parse s.data.toList).isSome) ∧ Gr w w' := by
  cases hp : Ver.parse s.data.toList with
  | none =>
    have HP := Lib.hid hp
    clear hp
    go_enter Tryd.func31, Tryd.ntmps31
    go_wp2_with fail
    refine (parse_bad _ hs HP.out).mono ?_
    rintro e w1 ⟨a, b, c, d, f, g, rfl, hg⟩
    go_wp2
    go_ret
    exact ⟨rfl, hg.alloc _⟩
  | some v =>
    have HP := Lib.hid hp
    clear hp
    go_enter Tryd.func31, Tryd.ntmps31
    go_wp2_with fail
    refine (parse_good _ hs HP.out).mono ?_
    rintro e w1 ⟨rfl, hg⟩
    go_wp2
    go_ret
    exact ⟨rfl, hg.alloc _⟩

end Go.Proofs.YtppnjkfeefmohaaDoor
