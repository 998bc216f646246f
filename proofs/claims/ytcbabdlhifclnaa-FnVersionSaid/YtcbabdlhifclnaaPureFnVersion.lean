/- The text of a path and a version has the sign @ between them, and without a version it is the path: for all strings that the statement lets in. -/
import Derived.Test.YtcbabdlhifclnaaPFnVersionx1
import Derived.Test.YtcbabdlhifclnaaBase
namespace Go.Proofs.Ytcbabdlhifclnaa.Pure
open Go.RowKit Go.Proofs.Ytcbabdlhifclnaa.PFnVersion Go.Proofs.YtcbabdlhifclnaaW.PrintWords Go.Proofs.YtcbabdlhifclnaaW.PrintLast
open Go.Proofs.Ytcbabdlhifclnaa.Str

theorem string_none (p : List UInt8) : impl_String.f (B p) (B []) = some (B p) := by
  unfold impl_String.f module_Version_String.f
  rw [if_pos (B_list [])]
  rfl

theorem string_some (p v : List UInt8) (hv : v ≠ []) (hp : p.length ≤ 140737488351232) (hl : v.length ≤ 140737488351232) :
    impl_String.f (B p) (B v) = some (B (p ++ 64 :: v)) := by
  unfold impl_String.f module_Version_String.f
  have e : B p ++ (⟨#[64]⟩ : ByteArray) = B (p ++ [64]) := B_append p [64]
  rw [if_neg (by rw [B_list]; exact hv), if_pos (by rw [B_size]; omega), e, if_pos (by rw [B_size, B_size]; simp; omega), B_append]
  simp

theorem FnVersion : laws_FnVersion.Pure := by
  intro p v hp hv
  obtain ⟨p, rfl⟩ := B_all p
  obtain ⟨v, rfl⟩ := B_all v
  rw [B_size] at hp hv
  refine ⟨1, ?_⟩
  have key : laws_FnVersion.j0 1 (B p) (B v) false = some true := by
    have one : impl_String.f (⟨#[97]⟩ : ByteArray) (⟨#[]⟩ : ByteArray) = some (B [97]) := string_none [97]
    have t1 : ((B [97]).toList == ([97] : List UInt8)) = true := by rw [B_list]; rfl
    simp only [laws_FnVersion.j0, Bool.false_eq_true, if_false]
    by_cases hn : v = []
    · subst hn
      rw [if_pos (B_list []), string_none, one]
      split
      · rfl
      · split
        · rfl
        · simp only [Option.bind_some, if_true]; rw [t1]
    · rw [if_neg (by rw [B_list]; exact hn), string_some p v hn hp hv, one]
      have e : (⟨#[64]⟩ : ByteArray) ++ B v = B (64 :: v) := B_append [64] v
      rw [e, B_append, B_size, B_size, B_size, if_pos (by omega), if_pos (by simp; omega)]
      split
      · rfl
      · split
        · rfl
        · simp only [Option.bind_some, if_true]; rw [t1]
  have yes : laws_FnVersion.j0 1 (B p) (B v) true = some true := by simp [laws_FnVersion.j0]
  unfold laws_FnVersion.f
  split
  · exact yes
  · cases decide (((B v).size : Int) > 2147483647)
    · exact key
    · exact yes

end Go.Proofs.Ytcbabdlhifclnaa.Pure
