/- Contracts of the library's functions, laid at this dump by the kit's shelf. -/
import Derived.Shelf.Strings.Prefix
import Derived.Shelf.Strings.Fold
import Derived.Shelf.Unicode.WordAny
import Derived.Test.YtfpboapgfbehlaaDoorProg
namespace Go.Proofs.YtfpboapgfbehlaaDoor
open Go.Shelf
def lays99_ren : Go.Shelf.Ren := ⟨fun | 99 => 48 | 206 => 63 | n => n, fun | 9 => 9 | 4 => 4 | 3 => 3 | n => n, fun | n => n⟩
theorem lays99 : Go.Proofs.Lays.n99 Tryd.prog lays99_ren := {
  mixed := by kernel_rfl
  f99 := Tryd.func48.trans (congrArg some (by kernel_rfl))
  f206 := Tryd.func63.trans (congrArg some (by kernel_rfl))
  t3 := Tryd.underlying3
  a3 := Tryd.isAgg3
  z3 := Tryd.sizeOf3
  v3 := Tryd.zeroValue3
  t4 := Tryd.underlying4
  a4 := Tryd.isAgg4
  z4 := Tryd.sizeOf4
  v4 := Tryd.zeroValue4
  t9 := Tryd.underlying9
  a9 := Tryd.isAgg9
  z9 := Tryd.sizeOf9
  v9 := Tryd.zeroValue9 }
open Go.RowKit Go.Lib in
/-- strings.HasPrefix: "HasPrefix reports whether the string s begins with prefix.": IT RETURNS 'Lib.hasPrefix s prefix'; the world is as it was. (LAID: no walk: one application.) -/
theorem strings_HasPrefix (s p : ByteArray) (w : World) :
    Calls Tryd.prog 48 #[.string s, .string p] w fun e w' => e = .returned (.bool (Lib.hasPrefix s.data.toList p.data.toList)) ∧ w' = w := Any.strings_HasPrefix lays99 s p w
def lays100_ren : Go.Shelf.Ren := ⟨fun | 100 => 50 | 207 => 64 | n => n, fun | 9 => 9 | 4 => 4 | 3 => 3 | n => n, fun | n => n⟩
theorem lays100 : Go.Proofs.Lays.n100 Tryd.prog lays100_ren := {
  mixed := by kernel_rfl
  f100 := Tryd.func50.trans (congrArg some (by kernel_rfl))
  f207 := Tryd.func64.trans (congrArg some (by kernel_rfl))
  t3 := Tryd.underlying3
  a3 := Tryd.isAgg3
  z3 := Tryd.sizeOf3
  v3 := Tryd.zeroValue3
  t4 := Tryd.underlying4
  a4 := Tryd.isAgg4
  z4 := Tryd.sizeOf4
  v4 := Tryd.zeroValue4
  t9 := Tryd.underlying9
  a9 := Tryd.isAgg9
  z9 := Tryd.sizeOf9
  v9 := Tryd.zeroValue9 }
open Go.RowKit Go.Lib in
/-- strings.HasSuffix: "HasSuffix reports whether the string s ends with suffix.": IT RETURNS 'Lib.hasSuffix s suffix'; the world is as it was. ('hs': no Go string is longer: a caller has it of every string that it was handed.) (LAID: no walk: one application.) -/
theorem strings_HasSuffix (s p : ByteArray) (w : World) (hs : s.size ≤ 9223372036854775807) :
    Calls Tryd.prog 50 #[.string s, .string p] w fun e w' => e = .returned (.bool (Lib.hasSuffix s.data.toList p.data.toList)) ∧ w' = w := Any.strings_HasSuffix lays100 s p w hs
def lays102_ren : Go.Shelf.Ren := ⟨fun | 102 => 51 | 209 => 65 | 207 => 64 | n => n, fun | 9 => 9 | 4 => 4 | 3 => 3 | n => n, fun | n => n⟩
theorem lays102 : Go.Proofs.Lays.n102 Tryd.prog lays102_ren := {
  mixed := by kernel_rfl
  f102 := Tryd.func51.trans (congrArg some (by kernel_rfl))
  f207 := Tryd.func64.trans (congrArg some (by kernel_rfl))
  f209 := Tryd.func65.trans (congrArg some (by kernel_rfl))
  t3 := Tryd.underlying3
  a3 := Tryd.isAgg3
  z3 := Tryd.sizeOf3
  v3 := Tryd.zeroValue3
  t4 := Tryd.underlying4
  a4 := Tryd.isAgg4
  z4 := Tryd.sizeOf4
  v4 := Tryd.zeroValue4
  t9 := Tryd.underlying9
  a9 := Tryd.isAgg9
  z9 := Tryd.sizeOf9
  v9 := Tryd.zeroValue9 }
open Go.RowKit Go.Lib in
/-- strings.TrimSuffix: "TrimSuffix returns s without the provided trailing suffix string. If s doesn't end with suffix, s is returned unchanged.": IT RETURNS 'Lib.trimSuffix s suffix'; the world is as it was. (LAID: no walk: one application.) -/
theorem strings_TrimSuffix (s p : ByteArray) (w : World) (hs : s.size ≤ 9223372036854775807) :
    Calls Tryd.prog 51 #[.string s, .string p] w fun e w' => e = .returned (.string ⟨(Lib.trimSuffix s.data.toList p.data.toList).toArray⟩) ∧ w' = w := Any.strings_TrimSuffix lays102 s p w hs
def lays164_ren : Go.Shelf.Ren := ⟨fun | 164 => 79 | 197 => 83 | 239 => 84 | 260 => 86 | 274 => 87 | 275 => 88 | n => n, fun | 9 => 9 | 4 => 4 | 3 => 3 | 5 => 5 | 0 => 0 | 21 => 21 | 105 => 77 | 156 => 84 | 49 => 83 | 157 => 85 | 46 => 73 | 159 => 87 | 162 => 90 | 160 => 88 | 119 => 69 | 139 => 72 | 138 => 71 | 208 => 105 | 51 => 80 | 206 => 103 | n => n, fun | 11 => 5 | 12 => 6 | 13 => 7 | 3 => 0 | 4 => 1 | n => n⟩
theorem lays164 : Go.Proofs.Lays.n164 Tryd.prog lays164_ren := {
  mixed := by kernel_rfl
  f164 := Tryd.func79.trans (congrArg some (by kernel_rfl))
  f197 := Tryd.func83.trans (congrArg some (by kernel_rfl))
  f239 := Tryd.func84.trans (congrArg some (by kernel_rfl))
  f260 := Tryd.func86.trans (congrArg some (by kernel_rfl))
  f274 := Tryd.func87.trans (congrArg some (by kernel_rfl))
  f275 := Tryd.func88.trans (congrArg some (by kernel_rfl))
  t0 := Tryd.underlying0
  a0 := Tryd.isAgg0
  z0 := Tryd.sizeOf0
  v0 := Tryd.zeroValue0
  t3 := Tryd.underlying3
  a3 := Tryd.isAgg3
  z3 := Tryd.sizeOf3
  v3 := Tryd.zeroValue3
  t4 := Tryd.underlying4
  a4 := Tryd.isAgg4
  z4 := Tryd.sizeOf4
  v4 := Tryd.zeroValue4
  t5 := Tryd.underlying5
  a5 := Tryd.isAgg5
  z5 := Tryd.sizeOf5
  v5 := Tryd.zeroValue5
  t9 := Tryd.underlying9
  a9 := Tryd.isAgg9
  z9 := Tryd.sizeOf9
  v9 := Tryd.zeroValue9
  t21 := Tryd.underlying21
  a21 := Tryd.isAgg21
  z21 := Tryd.sizeOf21
  v21 := Tryd.zeroValue21
  t46 := Tryd.underlying73
  a46 := Tryd.isAgg73
  z46 := Tryd.sizeOf73
  v46 := Tryd.zeroValue73
  t49 := Tryd.underlying83
  a49 := Tryd.isAgg83
  z49 := Tryd.sizeOf83
  v49 := Tryd.zeroValue83
  t51 := Tryd.underlying80
  a51 := Tryd.isAgg80
  z51 := Tryd.sizeOf80
  v51 := Tryd.zeroValue80
  t105 := Tryd.underlying77
  a105 := Tryd.isAgg77
  z105 := Tryd.sizeOf77
  v105 := Tryd.zeroValue77
  t119 := Tryd.underlying69
  a119 := Tryd.isAgg69
  z119 := Tryd.sizeOf69
  t138 := Tryd.underlying71
  a138 := Tryd.isAgg71
  z138 := Tryd.sizeOf71
  v138 := Tryd.zeroValue71
  t139 := Tryd.underlying72
  a139 := Tryd.isAgg72
  z139 := Tryd.sizeOf72
  v139 := Tryd.zeroValue72
  t156 := Tryd.underlying84
  a156 := Tryd.isAgg84
  z156 := Tryd.sizeOf84
  t157 := Tryd.underlying85
  a157 := Tryd.isAgg85
  z157 := Tryd.sizeOf85
  v157 := Tryd.zeroValue85
  t159 := Tryd.underlying87
  a159 := Tryd.isAgg87
  z159 := Tryd.sizeOf87
  v159 := Tryd.zeroValue87
  t160 := Tryd.underlying88
  a160 := Tryd.isAgg88
  z160 := Tryd.sizeOf88
  v160 := Tryd.zeroValue88
  t162 := Tryd.underlying90
  a162 := Tryd.isAgg90
  z162 := Tryd.sizeOf90
  v162 := Tryd.zeroValue90
  t206 := Tryd.underlying103
  a206 := Tryd.isAgg103
  z206 := Tryd.sizeOf103
  v206 := Tryd.zeroValue103
  t208 := Tryd.underlying105
  a208 := Tryd.isAgg105
  z208 := Tryd.sizeOf105
  v208 := Tryd.zeroValue105
  g3 := by kernel_rfl
  g4 := by kernel_rfl
  g11 := by kernel_rfl
  g12 := by kernel_rfl
  g13 := by kernel_rfl }
open Go.RowKit Go.Lib in
theorem strings_EqualFold (s t : ByteArray) (w : World) (hs : s.size < 4294967281) (has : ∀ (j : Nat) b, s.data.toList[j]? = some b → b.toNat < 128) (hat : ∀ (j : Nat) b, t.data.toList[j]? = some b → b.toNat < 128) :
    Calls Tryd.prog 79 #[.string s, .string t] w fun e w' => e = .returned (.bool (Lib.equalFold s.data.toList t.data.toList)) ∧ w' = w := Any.strings_EqualFold lays164 s t w hs has hat
def lays259_ren : Go.Shelf.Ren := ⟨fun | 259 => 74 | n => n, fun | 9 => 9 | 12 => 12 | 5 => 5 | 46 => 73 | 53 => 75 | n => n, fun | n => n⟩
theorem lays259 : Go.Proofs.Lays.n259 Tryd.prog lays259_ren := {
  mixed := by kernel_rfl
  f259 := Tryd.func74.trans (congrArg some (by kernel_rfl))
  t5 := Tryd.underlying5
  a5 := Tryd.isAgg5
  z5 := Tryd.sizeOf5
  v5 := Tryd.zeroValue5
  t9 := Tryd.underlying9
  a9 := Tryd.isAgg9
  z9 := Tryd.sizeOf9
  v9 := Tryd.zeroValue9
  t12 := Tryd.underlying12
  a12 := Tryd.isAgg12
  z12 := Tryd.sizeOf12
  v12 := Tryd.zeroValue12
  t46 := Tryd.underlying73
  a46 := Tryd.isAgg73
  z46 := Tryd.sizeOf73
  v46 := Tryd.zeroValue73
  t53 := Tryd.underlying75
  a53 := Tryd.isAgg75
  z53 := Tryd.sizeOf75
  v53 := Tryd.zeroValue75 }
open Go.RowKit Go.Lib in
theorem utf8_word (s : ByteArray) (w : World) (hs : 8 ≤ s.size) :
    Calls Tryd.prog 74 #[.string s] w fun e w' => e = .returned (.int .u64 (Lib.leNat [s.get! 0, s.get! 1, s.get! 2, s.get! 3, s.get! 4, s.get! 5, s.get! 6, s.get! 7])) ∧ ∃ q, w' = w.drewN q := Any.utf8_word lays259 s w hs
end Go.Proofs.YtfpboapgfbehlaaDoor
