/- Contracts of the library's functions, laid at this dump by the kit's shelf. -/
import Derived.Shelf.Strings.Prefix
import Derived.Shelf.Strings.Fold
import Derived.Shelf.Unicode.WordAny
import Derived.Test.YtndimgajkjkgfaaDoorProg
namespace Go.Proofs.YtndimgajkjkgfaaDoor
open Go.Shelf
def lays99_ren : Go.Shelf.Ren := ⟨fun | 99 => 66 | 206 => 80 | n => n, fun | 9 => 9 | 4 => 4 | 3 => 3 | n => n, fun | n => n⟩
theorem lays99 : Go.Proofs.Lays.n99 Tryd.prog lays99_ren := {
  mixed := by kernel_rfl
  f99 := Tryd.func66.trans (congrArg some (by kernel_rfl))
  f206 := Tryd.func80.trans (congrArg some (by kernel_rfl))
  t3 := Tryd.underlying3
  a3 := Tryd.isAgg3
  z3 := Tryd.sizeOf3
  v3 := Tryd.zeroValue3
  t4 := Tryd.underlying4
  a4 := Tryd.isAgg4
  z4 := Tryd.sizeOf4
  v4 := Tryd.zeroValue4
  t9 := Tryd.underlying9
  a9 := Tryd.isAgg9
  z9 := Tryd.sizeOf9
  v9 := Tryd.zeroValue9 }
open Go.RowKit Go.Lib in
/-- strings.HasPrefix: "HasPrefix reports whether the string s begins with prefix.": IT RETURNS 'Lib.hasPrefix s prefix'; the world is as it was. (LAID: no walk: one application.) -/
theorem strings_HasPrefix (s p : ByteArray) (w : World) :
    Calls Tryd.prog 66 #[.string s, .string p] w fun e w' => e = .returned (.bool (Lib.hasPrefix s.data.toList p.data.toList)) ∧ w' = w := Any.strings_HasPrefix lays99 s p w
def lays100_ren : Go.Shelf.Ren := ⟨fun | 100 => 75 | 207 => 88 | n => n, fun | 9 => 9 | 4 => 4 | 3 => 3 | n => n, fun | n => n⟩
theorem lays100 : Go.Proofs.Lays.n100 Tryd.prog lays100_ren := {
  mixed := by kernel_rfl
  f100 := Tryd.func75.trans (congrArg some (by kernel_rfl))
  f207 := Tryd.func88.trans (congrArg some (by kernel_rfl))
  t3 := Tryd.underlying3
  a3 := Tryd.isAgg3
  z3 := Tryd.sizeOf3
  v3 := Tryd.zeroValue3
  t4 := Tryd.underlying4
  a4 := Tryd.isAgg4
  z4 := Tryd.sizeOf4
  v4 := Tryd.zeroValue4
  t9 := Tryd.underlying9
  a9 := Tryd.isAgg9
  z9 := Tryd.sizeOf9
  v9 := Tryd.zeroValue9 }
open Go.RowKit Go.Lib in
/-- strings.HasSuffix: "HasSuffix reports whether the string s ends with suffix.": IT RETURNS 'Lib.hasSuffix s suffix'; the world is as it was. ('hs': no Go string is longer: a caller has it of every string that it was handed.) (LAID: no walk: one application.) -/
theorem strings_HasSuffix (s p : ByteArray) (w : World) (hs : s.size ≤ 9223372036854775807) :
    Calls Tryd.prog 75 #[.string s, .string p] w fun e w' => e = .returned (.bool (Lib.hasSuffix s.data.toList p.data.toList)) ∧ w' = w := Any.strings_HasSuffix lays100 s p w hs
def lays102_ren : Go.Shelf.Ren := ⟨fun | 102 => 76 | 209 => 89 | 207 => 88 | n => n, fun | 9 => 9 | 4 => 4 | 3 => 3 | n => n, fun | n => n⟩
theorem lays102 : Go.Proofs.Lays.n102 Tryd.prog lays102_ren := {
  mixed := by kernel_rfl
  f102 := Tryd.func76.trans (congrArg some (by kernel_rfl))
  f207 := Tryd.func88.trans (congrArg some (by kernel_rfl))
  f209 := Tryd.func89.trans (congrArg some (by kernel_rfl))
  t3 := Tryd.underlying3
  a3 := Tryd.isAgg3
  z3 := Tryd.sizeOf3
  v3 := Tryd.zeroValue3
  t4 := Tryd.underlying4
  a4 := Tryd.isAgg4
  z4 := Tryd.sizeOf4
  v4 := Tryd.zeroValue4
  t9 := Tryd.underlying9
  a9 := Tryd.isAgg9
  z9 := Tryd.sizeOf9
  v9 := Tryd.zeroValue9 }
open Go.RowKit Go.Lib in
/-- strings.TrimSuffix: "TrimSuffix returns s without the provided trailing suffix string. If s doesn't end with suffix, s is returned unchanged.": IT RETURNS 'Lib.trimSuffix s suffix'; the world is as it was. (LAID: no walk: one application.) -/
theorem strings_TrimSuffix (s p : ByteArray) (w : World) (hs : s.size ≤ 9223372036854775807) :
    Calls Tryd.prog 76 #[.string s, .string p] w fun e w' => e = .returned (.string ⟨(Lib.trimSuffix s.data.toList p.data.toList).toArray⟩) ∧ w' = w := Any.strings_TrimSuffix lays102 s p w hs
def lays164_ren : Go.Shelf.Ren := ⟨fun | 164 => 73 | 197 => 86 | 239 => 87 | 260 => 93 | 274 => 94 | 275 => 95 | n => n, fun | 9 => 9 | 4 => 4 | 3 => 3 | 5 => 5 | 0 => 0 | 21 => 21 | 105 => 78 | 156 => 86 | 49 => 85 | 157 => 87 | 46 => 76 | 159 => 89 | 162 => 92 | 160 => 90 | 119 => 72 | 139 => 75 | 138 => 74 | 208 => 107 | 51 => 82 | 206 => 105 | n => n, fun | 11 => 5 | 12 => 6 | 13 => 7 | 3 => 1 | 4 => 2 | n => n⟩
theorem lays164 : Go.Proofs.Lays.n164 Tryd.prog lays164_ren := {
  mixed := by kernel_rfl
  f164 := Tryd.func73.trans (congrArg some (by kernel_rfl))
  f197 := Tryd.func86.trans (congrArg some (by kernel_rfl))
  f239 := Tryd.func87.trans (congrArg some (by kernel_rfl))
  f260 := Tryd.func93.trans (congrArg some (by kernel_rfl))
  f274 := Tryd.func94.trans (congrArg some (by kernel_rfl))
  f275 := Tryd.func95.trans (congrArg some (by kernel_rfl))
  t0 := Tryd.underlying0
  a0 := Tryd.isAgg0
  z0 := Tryd.sizeOf0
  v0 := Tryd.zeroValue0
  t3 := Tryd.underlying3
  a3 := Tryd.isAgg3
  z3 := Tryd.sizeOf3
  v3 := Tryd.zeroValue3
  t4 := Tryd.underlying4
  a4 := Tryd.isAgg4
  z4 := Tryd.sizeOf4
  v4 := Tryd.zeroValue4
  t5 := Tryd.underlying5
  a5 := Tryd.isAgg5
  z5 := Tryd.sizeOf5
  v5 := Tryd.zeroValue5
  t9 := Tryd.underlying9
  a9 := Tryd.isAgg9
  z9 := Tryd.sizeOf9
  v9 := Tryd.zeroValue9
  t21 := Tryd.underlying21
  a21 := Tryd.isAgg21
  z21 := Tryd.sizeOf21
  v21 := Tryd.zeroValue21
  t46 := Tryd.underlying76
  a46 := Tryd.isAgg76
  z46 := Tryd.sizeOf76
  v46 := Tryd.zeroValue76
  t49 := Tryd.underlying85
  a49 := Tryd.isAgg85
  z49 := Tryd.sizeOf85
  v49 := Tryd.zeroValue85
  t51 := Tryd.underlying82
  a51 := Tryd.isAgg82
  z51 := Tryd.sizeOf82
  v51 := Tryd.zeroValue82
  t105 := Tryd.underlying78
  a105 := Tryd.isAgg78
  z105 := Tryd.sizeOf78
  v105 := Tryd.zeroValue78
  t119 := Tryd.underlying72
  a119 := Tryd.isAgg72
  z119 := Tryd.sizeOf72
  t138 := Tryd.underlying74
  a138 := Tryd.isAgg74
  z138 := Tryd.sizeOf74
  v138 := Tryd.zeroValue74
  t139 := Tryd.underlying75
  a139 := Tryd.isAgg75
  z139 := Tryd.sizeOf75
  v139 := Tryd.zeroValue75
  t156 := Tryd.underlying86
  a156 := Tryd.isAgg86
  z156 := Tryd.sizeOf86
  t157 := Tryd.underlying87
  a157 := Tryd.isAgg87
  z157 := Tryd.sizeOf87
  v157 := Tryd.zeroValue87
  t159 := Tryd.underlying89
  a159 := Tryd.isAgg89
  z159 := Tryd.sizeOf89
  v159 := Tryd.zeroValue89
  t160 := Tryd.underlying90
  a160 := Tryd.isAgg90
  z160 := Tryd.sizeOf90
  v160 := Tryd.zeroValue90
  t162 := Tryd.underlying92
  a162 := Tryd.isAgg92
  z162 := Tryd.sizeOf92
  v162 := Tryd.zeroValue92
  t206 := Tryd.underlying105
  a206 := Tryd.isAgg105
  z206 := Tryd.sizeOf105
  v206 := Tryd.zeroValue105
  t208 := Tryd.underlying107
  a208 := Tryd.isAgg107
  z208 := Tryd.sizeOf107
  v208 := Tryd.zeroValue107
  g3 := by kernel_rfl
  g4 := by kernel_rfl
  g11 := by kernel_rfl
  g12 := by kernel_rfl
  g13 := by kernel_rfl }
open Go.RowKit Go.Lib in
theorem strings_EqualFold (s t : ByteArray) (w : World) (hs : s.size < 4294967281) (has : ∀ (j : Nat) b, s.data.toList[j]? = some b → b.toNat < 128) (hat : ∀ (j : Nat) b, t.data.toList[j]? = some b → b.toNat < 128) :
    Calls Tryd.prog 73 #[.string s, .string t] w fun e w' => e = .returned (.bool (Lib.equalFold s.data.toList t.data.toList)) ∧ w' = w := Any.strings_EqualFold lays164 s t w hs has hat
def lays259_ren : Go.Shelf.Ren := ⟨fun | 259 => 79 | n => n, fun | 9 => 9 | 12 => 12 | 5 => 5 | 46 => 76 | 53 => 81 | n => n, fun | n => n⟩
theorem lays259 : Go.Proofs.Lays.n259 Tryd.prog lays259_ren := {
  mixed := by kernel_rfl
  f259 := Tryd.func79.trans (congrArg some (by kernel_rfl))
  t5 := Tryd.underlying5
  a5 := Tryd.isAgg5
  z5 := Tryd.sizeOf5
  v5 := Tryd.zeroValue5
  t9 := Tryd.underlying9
  a9 := Tryd.isAgg9
  z9 := Tryd.sizeOf9
  v9 := Tryd.zeroValue9
  t12 := Tryd.underlying12
  a12 := Tryd.isAgg12
  z12 := Tryd.sizeOf12
  v12 := Tryd.zeroValue12
  t46 := Tryd.underlying76
  a46 := Tryd.isAgg76
  z46 := Tryd.sizeOf76
  v46 := Tryd.zeroValue76
  t53 := Tryd.underlying81
  a53 := Tryd.isAgg81
  z53 := Tryd.sizeOf81
  v53 := Tryd.zeroValue81 }
open Go.RowKit Go.Lib in
theorem utf8_word (s : ByteArray) (w : World) (hs : 8 ≤ s.size) :
    Calls Tryd.prog 79 #[.string s] w fun e w' => e = .returned (.int .u64 (Lib.leNat [s.get! 0, s.get! 1, s.get! 2, s.get! 3, s.get! 4, s.get! 5, s.get! 6, s.get! 7])) ∧ ∃ q, w' = w.drewN q := Any.utf8_word lays259 s w hs
end Go.Proofs.YtndimgajkjkgfaaDoor
