/- Walks of package semver: isBadNum, parsePrerelease, parseBuild. -/
import Derived.Test.YtmhffhokfdbbcaaDoorSvB
import Derived.Test.YtmhffhokfdbbcaaDoorSer
namespace Go.Proofs.YtmhffhokfdbbcaaDoor
open Go.RowKit Str Ver
set_option linter.unusedVariables false

theorem ne_nat' {c d : UInt8} (h : c ≠ d) : ((c.toNat : Int) != (d.toNat : Int)) = true := by
  rw [bne_iff_ne]; intro e; exact h (UInt8.toNat_inj.1 (by omega))

def serV (strict : Bool) (q : UInt8 → Bool) (l : List UInt8) : Value :=
  if series strict ((l.drop 1).takeWhile q) = true then .tuple #[.string (B (l.take 1 ++ (l.drop 1).takeWhile q)), .string (B ((l.drop 1).dropWhile q)), .bool true]
  else .tuple #[.string (B []), .string (B []), .bool false]

theorem serV_bad {strict : Bool} {q : UInt8 → Bool} {l : List UInt8} (h : series strict ((l.drop 1).takeWhile q) = false) : serV strict q l = .tuple #[.string (B []), .string (B []), .bool false] := by
  unfold serV; rw [h]; rfl

theorem serV_good {strict : Bool} {q : UInt8 → Bool} {s : ByteArray} {i : Nat} (h : series strict ((s.data.toList.drop 1).takeWhile q) = true) (hl : 1 ≤ s.data.toList.length) (hi : 1 ≤ i)
    (h2 : (s.data.toList.drop 1).takeWhile q = (s.data.toList.drop 1).take (i - 1)) (h3 : (s.data.toList.drop 1).dropWhile q = s.data.toList.drop i) :
    serV strict q s.data.toList = .tuple #[.string (s.extract 0 i), .string (s.extract i s.size), .bool true] := by
  unfold serV; rw [if_pos h, h2, h3, cut_take, cut_drop]
  congr 4
  obtain ⟨j, rfl⟩ : ∃ j, i = 1 + j := ⟨i - 1, by omega⟩
  rw [List.take_add, Nat.add_sub_cancel_left]

end Go.Proofs.YtmhffhokfdbbcaaDoor
