/- Contracts of the library's functions, laid at this dump by the kit's shelf. -/
import Derived.Shelf.Small.Bits
import Derived.Shelf.Small.Strs
import Derived.Shelf.Strings.Prefix
import Derived.Shelf.Strings.Fold
import Derived.Shelf.Slices.Clone
import Derived.Shelf.Unicode.WordAny
import Derived.Test.YtppnjkfeefmohaaDoorProg
namespace Go.Proofs.YtppnjkfeefmohaaDoor
open Go.Shelf
def lays125_ren : Go.Shelf.Ren := ⟨fun | 125 => 36 | 128 => 58 | 129 => 59 | n => n, fun | 46 => 59 | 3 => 3 | 51 => 82 | 53 => 84 | 4 => 4 | 5 => 5 | 9 => 9 | n => n, fun | n => n⟩
theorem lays125 : Go.Proofs.Lays.n125 Tryd.prog lays125_ren := {
  mixed := by kernel_rfl
  f125 := Tryd.func36.trans (congrArg some (by kernel_rfl))
  f128 := Tryd.func58.trans (congrArg some (by kernel_rfl))
  f129 := Tryd.func59.trans (congrArg some (by kernel_rfl))
  t3 := Tryd.underlying3
  a3 := Tryd.isAgg3
  z3 := Tryd.sizeOf3
  v3 := Tryd.zeroValue3
  t4 := Tryd.underlying4
  a4 := Tryd.isAgg4
  z4 := Tryd.sizeOf4
  v4 := Tryd.zeroValue4
  t5 := Tryd.underlying5
  a5 := Tryd.isAgg5
  z5 := Tryd.sizeOf5
  v5 := Tryd.zeroValue5
  t9 := Tryd.underlying9
  a9 := Tryd.isAgg9
  z9 := Tryd.sizeOf9
  v9 := Tryd.zeroValue9
  t46 := Tryd.underlying59
  a46 := Tryd.isAgg59
  z46 := Tryd.sizeOf59
  v46 := Tryd.zeroValue59
  t51 := Tryd.underlying82
  a51 := Tryd.isAgg82
  z51 := Tryd.sizeOf82
  v51 := Tryd.zeroValue82
  t53 := Tryd.underlying84
  a53 := Tryd.isAgg84
  z53 := Tryd.sizeOf84
  v53 := Tryd.zeroValue84 }
/-- bits.Len: "Len returns the minimum number of bits required to represent x; the result is 0 for x == 0.": IT RETURNS 'Lib.bitLen x'; the world is as it was. (A uint has 64 bits in the model.) ITS CALLEE bits.Len64 IS MET BY ITS OWN CONTRACT OFF THE SHELF (lay that first). (LAID: no walk: one application.) -/
theorem bits_Len (x : Int) (w : World) (h0 : 0 ≤ x) (h1 : x ≤ 18446744073709551615) :
    Calls Tryd.prog 36 #[.int .u64 x] w fun e w' => e = .returned (.int .i64 (Lib.bitLen x.toNat)) ∧ w' = w := Any.bits_Len lays125 x w h0 h1
def lays106_ren : Go.Shelf.Ren := ⟨fun | 106 => 24 | 213 => 37 | 265 => 60 | n => n, fun | 9 => 9 | 3 => 3 | n => n, fun | n => n⟩
theorem lays106 : Go.Proofs.Lays.n106 Tryd.prog lays106_ren := {
  mixed := by kernel_rfl
  f106 := Tryd.func24.trans (congrArg some (by kernel_rfl))
  f213 := Tryd.func37.trans (congrArg some (by kernel_rfl))
  f265 := Tryd.func60.trans (congrArg some (by kernel_rfl))
  t3 := Tryd.underlying3
  a3 := Tryd.isAgg3
  z3 := Tryd.sizeOf3
  v3 := Tryd.zeroValue3
  t9 := Tryd.underlying9
  a9 := Tryd.isAgg9
  z9 := Tryd.sizeOf9
  v9 := Tryd.zeroValue9 }
open Go.RowKit in
/-- strings.Compare: "Compare returns an integer comparing two strings lexicographically. The result will be 0 if a == b, -1 if a < b, and +1 if a > b.": IT RETURNS 'Lib.compareBytes a b'; the world is as it was. (LAID: no walk: one application.) -/
theorem strings_Compare (a b : ByteArray) (w : World) :
    Calls Tryd.prog 24 #[.string a, .string b] w fun e w' => e = .returned (.int .i64 (Lib.compareBytes a.data.toList b.data.toList)) ∧ w' = w := Any.strings_Compare lays106 a b w
def lays99_ren : Go.Shelf.Ren := ⟨fun | 99 => 68 | 206 => 92 | n => n, fun | 9 => 9 | 4 => 4 | 3 => 3 | n => n, fun | n => n⟩
theorem lays99 : Go.Proofs.Lays.n99 Tryd.prog lays99_ren := {
  mixed := by kernel_rfl
  f99 := Tryd.func68.trans (congrArg some (by kernel_rfl))
  f206 := Tryd.func92.trans (congrArg some (by kernel_rfl))
  t3 := Tryd.underlying3
  a3 := Tryd.isAgg3
  z3 := Tryd.sizeOf3
  v3 := Tryd.zeroValue3
  t4 := Tryd.underlying4
  a4 := Tryd.isAgg4
  z4 := Tryd.sizeOf4
  v4 := Tryd.zeroValue4
  t9 := Tryd.underlying9
  a9 := Tryd.isAgg9
  z9 := Tryd.sizeOf9
  v9 := Tryd.zeroValue9 }
open Go.RowKit Go.Lib in
/-- strings.HasPrefix: "HasPrefix reports whether the string s begins with prefix.": IT RETURNS 'Lib.hasPrefix s prefix'; the world is as it was. (LAID: no walk: one application.) -/
theorem strings_HasPrefix (s p : ByteArray) (w : World) :
    Calls Tryd.prog 68 #[.string s, .string p] w fun e w' => e = .returned (.bool (Lib.hasPrefix s.data.toList p.data.toList)) ∧ w' = w := Any.strings_HasPrefix lays99 s p w
def lays100_ren : Go.Shelf.Ren := ⟨fun | 100 => 93 | 207 => 102 | n => n, fun | 9 => 9 | 4 => 4 | 3 => 3 | n => n, fun | n => n⟩
theorem lays100 : Go.Proofs.Lays.n100 Tryd.prog lays100_ren := {
  mixed := by kernel_rfl
  f100 := Tryd.func93.trans (congrArg some (by kernel_rfl))
  f207 := Tryd.func102.trans (congrArg some (by kernel_rfl))
  t3 := Tryd.underlying3
  a3 := Tryd.isAgg3
  z3 := Tryd.sizeOf3
  v3 := Tryd.zeroValue3
  t4 := Tryd.underlying4
  a4 := Tryd.isAgg4
  z4 := Tryd.sizeOf4
  v4 := Tryd.zeroValue4
  t9 := Tryd.underlying9
  a9 := Tryd.isAgg9
  z9 := Tryd.sizeOf9
  v9 := Tryd.zeroValue9 }
open Go.RowKit Go.Lib in
/-- strings.HasSuffix: "HasSuffix reports whether the string s ends with suffix.": IT RETURNS 'Lib.hasSuffix s suffix'; the world is as it was. ('hs': no Go string is longer: a caller has it of every string that it was handed.) (LAID: no walk: one application.) -/
theorem strings_HasSuffix (s p : ByteArray) (w : World) (hs : s.size ≤ 9223372036854775807) :
    Calls Tryd.prog 93 #[.string s, .string p] w fun e w' => e = .returned (.bool (Lib.hasSuffix s.data.toList p.data.toList)) ∧ w' = w := Any.strings_HasSuffix lays100 s p w hs
def lays164_ren : Go.Shelf.Ren := ⟨fun | 164 => 90 | 197 => 100 | 239 => 101 | 260 => 105 | 274 => 106 | 275 => 107 | n => n, fun | 9 => 9 | 4 => 4 | 3 => 3 | 5 => 5 | 0 => 0 | 21 => 21 | 105 => 112 | 156 => 119 | 49 => 118 | 157 => 120 | 46 => 59 | 159 => 122 | 162 => 125 | 160 => 123 | 119 => 101 | 139 => 104 | 138 => 103 | 208 => 140 | 51 => 82 | 206 => 138 | n => n, fun | 11 => 6 | 12 => 7 | 13 => 8 | 3 => 1 | 4 => 2 | n => n⟩
theorem lays164 : Go.Proofs.Lays.n164 Tryd.prog lays164_ren := {
  mixed := by kernel_rfl
  f164 := Tryd.func90.trans (congrArg some (by kernel_rfl))
  f197 := Tryd.func100.trans (congrArg some (by kernel_rfl))
  f239 := Tryd.func101.trans (congrArg some (by kernel_rfl))
  f260 := Tryd.func105.trans (congrArg some (by kernel_rfl))
  f274 := Tryd.func106.trans (congrArg some (by kernel_rfl))
  f275 := Tryd.func107.trans (congrArg some (by kernel_rfl))
  t0 := Tryd.underlying0
  a0 := Tryd.isAgg0
  z0 := Tryd.sizeOf0
  v0 := Tryd.zeroValue0
  t3 := Tryd.underlying3
  a3 := Tryd.isAgg3
  z3 := Tryd.sizeOf3
  v3 := Tryd.zeroValue3
  t4 := Tryd.underlying4
  a4 := Tryd.isAgg4
  z4 := Tryd.sizeOf4
  v4 := Tryd.zeroValue4
  t5 := Tryd.underlying5
  a5 := Tryd.isAgg5
  z5 := Tryd.sizeOf5
  v5 := Tryd.zeroValue5
  t9 := Tryd.underlying9
  a9 := Tryd.isAgg9
  z9 := Tryd.sizeOf9
  v9 := Tryd.zeroValue9
  t21 := Tryd.underlying21
  a21 := Tryd.isAgg21
  z21 := Tryd.sizeOf21
  v21 := Tryd.zeroValue21
  t46 := Tryd.underlying59
  a46 := Tryd.isAgg59
  z46 := Tryd.sizeOf59
  v46 := Tryd.zeroValue59
  t49 := Tryd.underlying118
  a49 := Tryd.isAgg118
  z49 := Tryd.sizeOf118
  v49 := Tryd.zeroValue118
  t51 := Tryd.underlying82
  a51 := Tryd.isAgg82
  z51 := Tryd.sizeOf82
  v51 := Tryd.zeroValue82
  t105 := Tryd.underlying112
  a105 := Tryd.isAgg112
  z105 := Tryd.sizeOf112
  v105 := Tryd.zeroValue112
  t119 := Tryd.underlying101
  a119 := Tryd.isAgg101
  z119 := Tryd.sizeOf101
  t138 := Tryd.underlying103
  a138 := Tryd.isAgg103
  z138 := Tryd.sizeOf103
  v138 := Tryd.zeroValue103
  t139 := Tryd.underlying104
  a139 := Tryd.isAgg104
  z139 := Tryd.sizeOf104
  v139 := Tryd.zeroValue104
  t156 := Tryd.underlying119
  a156 := Tryd.isAgg119
  z156 := Tryd.sizeOf119
  t157 := Tryd.underlying120
  a157 := Tryd.isAgg120
  z157 := Tryd.sizeOf120
  v157 := Tryd.zeroValue120
  t159 := Tryd.underlying122
  a159 := Tryd.isAgg122
  z159 := Tryd.sizeOf122
  v159 := Tryd.zeroValue122
  t160 := Tryd.underlying123
  a160 := Tryd.isAgg123
  z160 := Tryd.sizeOf123
  v160 := Tryd.zeroValue123
  t162 := Tryd.underlying125
  a162 := Tryd.isAgg125
  z162 := Tryd.sizeOf125
  v162 := Tryd.zeroValue125
  t206 := Tryd.underlying138
  a206 := Tryd.isAgg138
  z206 := Tryd.sizeOf138
  v206 := Tryd.zeroValue138
  t208 := Tryd.underlying140
  a208 := Tryd.isAgg140
  z208 := Tryd.sizeOf140
  v208 := Tryd.zeroValue140
  g3 := by kernel_rfl
  g4 := by kernel_rfl
  g11 := by kernel_rfl
  g12 := by kernel_rfl
  g13 := by kernel_rfl }
open Go.RowKit Go.Lib in
theorem strings_EqualFold (s t : ByteArray) (w : World) (hs : s.size < 4294967281) (has : ∀ (j : Nat) b, s.data.toList[j]? = some b → b.toNat < 128) (hat : ∀ (j : Nat) b, t.data.toList[j]? = some b → b.toNat < 128) :
    Calls Tryd.prog 90 #[.string s, .string t] w fun e w' => e = .returned (.bool (Lib.equalFold s.data.toList t.data.toList)) ∧ w' = w := Any.strings_EqualFold lays164 s t w hs has hat
def laysNm216_ren : Go.Shelf.Ren := ⟨fun | 16 => 20 | n => n, fun | 24 => 32 | 9 => 9 | 4 => 4 | n => n, fun | n => n⟩
theorem laysNm216 : Go.Proofs.Lays2.n16 Tryd.prog laysNm216_ren := {
  mixed := by kernel_rfl
  f16 := Tryd.func20.trans (congrArg some (by kernel_rfl))
  t4 := Tryd.underlying4
  a4 := Tryd.isAgg4
  z4 := Tryd.sizeOf4
  v4 := Tryd.zeroValue4
  t9 := Tryd.underlying9
  a9 := Tryd.isAgg9
  z9 := Tryd.sizeOf9
  v9 := Tryd.zeroValue9
  t24 := Tryd.underlying32
  a24 := Tryd.isAgg32
  z24 := Tryd.sizeOf32
  v24 := Tryd.zeroValue32
  i9 := by kernel_rfl }
open Go.RowKit Go.Lib in
/-- slices.Clone at []string: "Clone returns a copy of the slice. The elements are copied using assignment, so this is a shallow clone. The result may have additional unused capacity. The result preserves the nilness of s.": OF A SLICE THAT IS NOT nil IT RETURNS A SLICE THAT IS NOT nil, OF THE SAME ELEMENTS, IN MEMORY OF THE CALL's OWN: in the how-to's words (6f): 'w'.ownsRow B e 1 v' n cells': v' begins at the head of a row among the blocks from B on (B: the heap's size at the call), not frozen, whose first cells are the elements · 'Below B w w'': below B all is as it was. The capacity is whatever the run-time gives. 'zs': what the cells behind the slice's address hold; 'zs.take n': its elements. (LAID: no walk: one application.) -/
theorem slices_Clone_string (b off n c : Nat) (zs : List ByteArray) (w : World) (hz : n ≤ zs.length) (hbig : n * 16 ≤ 140737488355328) (hc : ∀ j, j < zs.length → w.cell? ⟨b, off + j, none⟩ = some (.string (zs.getD j ByteArray.empty))) :
    Calls Tryd.prog 20 #[.slice (some ⟨b, off, none⟩) n c] w fun e w' => ∃ v', e = .returned v' ∧ w'.ownsRow w.heap.size 9 1 v' n ((zs.take n).map (Value.string)) ∧ v' ≠ .slice none 0 0 ∧ Below w.heap.size w w' := Any.slices_Clone_string laysNm216 b off n c zs w hz hbig hc
open Go.RowKit Go.Lib in
/-- The same at nil: nil comes back; the world is as it was. (LAID: no walk: one application.) -/
theorem slices_Clone_string_nil (n c : Nat) (w : World) :
    Calls Tryd.prog 20 #[.slice none n c] w fun e w' => e = .returned (.slice none 0 0) ∧ w' = w := Any.slices_Clone_string_nil laysNm216 n c w
open Go.RowKit Go.Lib in
/-- The same at a slice of length 0 that is not nil, WHATEVER ITS ADDRESS (no cell is asked for): a slice that is not nil and owns nothing comes back. (LAID: no walk: one application.) -/
theorem slices_Clone_string_zero (a : Addr) (c : Nat) (w : World) :
    Calls Tryd.prog 20 #[.slice (some a) 0 c] w fun e w' => ∃ v', e = .returned v' ∧ w'.ownsRow w.heap.size 9 1 v' 0 [] ∧ v' ≠ .slice none 0 0 ∧ Below w.heap.size w w' := Any.slices_Clone_string_zero laysNm216 a c w
def lays259_ren : Go.Shelf.Ren := ⟨fun | 259 => 85 | n => n, fun | 9 => 9 | 12 => 12 | 5 => 5 | 46 => 59 | 53 => 84 | n => n, fun | n => n⟩
theorem lays259 : Go.Proofs.Lays.n259 Tryd.prog lays259_ren := {
  mixed := by kernel_rfl
  f259 := Tryd.func85.trans (congrArg some (by kernel_rfl))
  t5 := Tryd.underlying5
  a5 := Tryd.isAgg5
  z5 := Tryd.sizeOf5
  v5 := Tryd.zeroValue5
  t9 := Tryd.underlying9
  a9 := Tryd.isAgg9
  z9 := Tryd.sizeOf9
  v9 := Tryd.zeroValue9
  t12 := Tryd.underlying12
  a12 := Tryd.isAgg12
  z12 := Tryd.sizeOf12
  v12 := Tryd.zeroValue12
  t46 := Tryd.underlying59
  a46 := Tryd.isAgg59
  z46 := Tryd.sizeOf59
  v46 := Tryd.zeroValue59
  t53 := Tryd.underlying84
  a53 := Tryd.isAgg84
  z53 := Tryd.sizeOf84
  v53 := Tryd.zeroValue84 }
open Go.RowKit Go.Lib in
theorem utf8_word (s : ByteArray) (w : World) (hs : 8 ≤ s.size) :
    Calls Tryd.prog 85 #[.string s] w fun e w' => e = .returned (.int .u64 (Lib.leNat [s.get! 0, s.get! 1, s.get! 2, s.get! 3, s.get! 4, s.get! 5, s.get! 6, s.get! 7])) ∧ ∃ q, w' = w.drewN q := Any.utf8_word lays259 s w hs
end Go.Proofs.YtppnjkfeefmohaaDoor
