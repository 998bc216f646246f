/- Strings as lists of bytes: what the printed words for strings (size, byte at a place, cut, join) are of the string that holds a given list. Plain Lean, no program in sight. -/
import Derived.Test.YtcbabdlhifclnaaWWords
import Derived.Lib.Strings
import Derived.Lib.IndexBytes
import Derived.Lib.SmallJoins
namespace Go.Proofs.Ytcbabdlhifclnaa
open Go.Proofs.YtcbabdlhifclnaaW.PrintWords Go.RowKit
namespace Str

/-- the string that holds a list of bytes -/
def B (l : List UInt8) : ByteArray := ⟨l.toArray⟩

theorem B_data (l : List UInt8) : (B l).data.toList = l := by simp [B]
theorem B_list (l : List UInt8) : (B l).toList = l := by rw [Lib.toList_data, B_data]
theorem B_size (l : List UInt8) : (B l).size = l.length := by rw [Lib.size_eq, B_data]
theorem of_data {s t : ByteArray} (h : s.data.toList = t.data.toList) : s = t := by
  cases s; cases t; simp at h; rw [h]
theorem B_of (s : ByteArray) : B s.data.toList = s := of_data (B_data _)
theorem B_all (s : ByteArray) : ∃ l, s = B l := ⟨_, (B_of s).symm⟩
theorem B_inj {l m : List UInt8} (h : B l = B m) : l = m := by rw [← B_data l, h, B_data]
theorem B_cut (l : List UInt8) (a b : Nat) : (B l).extract a b = B ((l.drop a).take (b - a)) := of_data (by rw [Lib.extract_data, B_data, B_data])
theorem B_from (l : List UInt8) (a : Nat) : (B l).extract a (B l).size = B (l.drop a) := of_data (by rw [Lib.extract_to_end, B_data, B_data])
theorem B_front (l : List UInt8) (b : Nat) : (B l).extract 0 b = B (l.take b) := by rw [B_cut]; simp
theorem B_append (l m : List UInt8) : B l ++ B m = B (l ++ m) := of_data (by rw [Go.Joins.data_append]; simp only [B_data])
theorem B_nil : (⟨#[]⟩ : ByteArray) = B [] := rfl

/-- the byte at a place -/
theorem bt_B (l : List UInt8) (n : Nat) : bt (B l) (n : Int) = ((l[n]?.getD 0).toNat : Int) := by
  unfold bt
  rw [Int.toNat_natCast]
  by_cases h : n < l.length
  · rw [dif_pos (by rw [B_size]; exact h)]
    have e : (B l).data.toList[n]? = some ((B l)[n]'(by rw [B_size]; exact h)) := Lib.data_getElem? _ _ _
    rw [B_data] at e
    rw [e]; rfl
  · rw [dif_neg (by rw [B_size]; exact h), List.getElem?_eq_none (by omega)]
    rfl

theorem bt_cons (c : UInt8) (l : List UInt8) : bt (B (c :: l)) 0 = (c.toNat : Int) := bt_B (c :: l) 0

theorem wrap_id {i : Int} (h0 : -9223372036854775808 ≤ i) (h1 : i ≤ 9223372036854775807) : wrap64 i = i := by
  unfold wrap64
  omega

end Str
end Go.Proofs.Ytcbabdlhifclnaa
