/- Contracts of the library's functions, laid at this dump by the kit's shelf. -/
import Derived.Shelf.Strings.Prefix
import Derived.Test.YtmhffhokfdbbcaaDoorProg
namespace Go.Proofs.YtmhffhokfdbbcaaDoor
open Go.Shelf
def lays102_ren : Go.Shelf.Ren := ⟨fun | 102 => 13 | 209 => 17 | 207 => 21 | n => n, fun | 9 => 9 | 4 => 4 | 3 => 3 | n => n, fun | n => n⟩
theorem lays102 : Go.Proofs.Lays.n102 Tryd.prog lays102_ren := {
  mixed := by kernel_rfl
  f102 := Tryd.func13.trans (congrArg some (by kernel_rfl))
  f207 := Tryd.func21.trans (congrArg some (by kernel_rfl))
  f209 := Tryd.func17.trans (congrArg some (by kernel_rfl))
  t3 := Tryd.underlying3
  a3 := Tryd.isAgg3
  z3 := Tryd.sizeOf3
  v3 := Tryd.zeroValue3
  t4 := Tryd.underlying4
  a4 := Tryd.isAgg4
  z4 := Tryd.sizeOf4
  v4 := Tryd.zeroValue4
  t9 := Tryd.underlying9
  a9 := Tryd.isAgg9
  z9 := Tryd.sizeOf9
  v9 := Tryd.zeroValue9 }
open Go.RowKit Go.Lib in
/-- strings.TrimSuffix: "TrimSuffix returns s without the provided trailing suffix string. If s doesn't end with suffix, s is returned unchanged.": IT RETURNS 'Lib.trimSuffix s suffix'; the world is as it was. (LAID: no walk: one application.) -/
theorem strings_TrimSuffix (s p : ByteArray) (w : World) (hs : s.size ≤ 9223372036854775807) :
    Calls Tryd.prog 13 #[.string s, .string p] w fun e w' => e = .returned (.string ⟨(Lib.trimSuffix s.data.toList p.data.toList).toArray⟩) ∧ w' = w := Any.strings_TrimSuffix lays102 s p w hs
end Go.Proofs.YtmhffhokfdbbcaaDoor
