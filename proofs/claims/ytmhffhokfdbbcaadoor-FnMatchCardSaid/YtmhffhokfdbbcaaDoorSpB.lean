/- Walks of the reference's part, figures and series. -/
import Derived.Test.YtmhffhokfdbbcaaDoorSpA
namespace Go.Proofs.YtmhffhokfdbbcaaDoor
open Go.RowKit Str Ver
set_option linter.unusedVariables false

theorem Cut_tell {s a b : ByteArray} {c : UInt8} {ci : Int} {m : Bool} (w : World) (hci : (c.toNat : Int) = ci) (hs : s.size ≤ 140737488351232) (h1 : s.data.toList.takeWhile (· != c) = a.data.toList)
    (h2 : (s.data.toList.dropWhile (· != c)).tail = b.data.toList) (h3 : (!(s.data.toList.dropWhile (· != c)).isEmpty) = m) :
    Calls Tryd.prog 8 #[.string s, .int .u8 ci] w fun e w' => e = .returned (.tuple #[.string a, .string b, .bool m]) ∧ Drew w w' :=
  (hci ▸ Cut_calls s c w hs).mono fun e w' ⟨p, q⟩ => ⟨by rw [p]; unfold cutV; rw [h1, h2, h3, B_of, B_of], q⟩

theorem series_step (strict : Bool) (l : List UInt8) : series strict l =
    (okId strict (l.takeWhile (· != 46)) && (if (l.dropWhile (· != 46)).isEmpty = true then true else series strict (l.dropWhile (· != 46)).tail)) := by
  unfold series
  rw [split_cons_eq, List.all_cons]
  congr 1
  cases l.dropWhile (· != 46) <;> rfl

/-- a number with noughts ahead, where these are not let -/
def lead (strict : Bool) (a : List UInt8) : Bool := strict && a.all dig && decide (1 < a.length) && a.head? == some 48

end Go.Proofs.YtmhffhokfdbbcaaDoor
