/- Walks of package semver's compareVersion and Sort over the kit's contract of slices.SortFunc. -/
import Derived.Test.YtppnjkfeefmohaaDoorSrt
import Derived.Test.YtppnjkfeefmohaaDoorBl
import Derived.Test.YtppnjkfeefmohaaDoorShelf
import Derived.Test.YtppnjkfeefmohaaDoorSortL
import Derived.Shelf.SlSortCmp.NoneTotal
namespace Go.Proofs.YtppnjkfeefmohaaDoor
open Go.RowKit Str Go.Sort
set_option linter.unusedVariables false

theorem sort_below {α : Type} [Inhabited α] (enc : α → Value) (w : World) (blk off n : Nat) (d : Array α) (os : Array Obj) (B : Nat) (hB : B ≤ blk) (hs : B ≤ w.heap.size) : Below B w (sortWorld enc w blk off n d os) := by
  refine ⟨rfl, rfl, rfl, ?_, fun k hk => ?_⟩
  · unfold sortWorld; rw [size_grow, Go.Proofs.size_putRow]; exact Nat.le_add_right _ _
  · show ((w.heap.modify blk _) ++ os)[k]? = w.heap[k]?
    rw [Array.getElem?_append_left (by simp; omega), Array.getElem?_modify, if_neg (by omega)]

theorem compareVersion_calls (s t : ByteArray) (w : World) (hs : s.size ≤ 140737488351232) (ht : t.size ≤ 140737488351232) :
    Calls Tryd.prog 34 #[.string s, .string t] w fun e w' => e = .returned (.int .i64 (Srt.ordV s.data.toList t.data.toList)) ∧ Gr w w' := by
  have C1 := Lib.hid fun w => Compare_calls s t w hs ht
  have C2 := Lib.hid fun w => strings_Compare s t w
  rw [Srt.bytes_same] at C2
  unfold Srt.ordV Cmp.lex
  generalize Ver.bytes s.data.toList t.data.toList = r at *
  generalize Ver.cmp s.data.toList t.data.toList = c at *
  by_cases h : c = 0
  · subst h
    rw [if_pos rfl]
    go_enter Tryd.func34, Tryd.ntmps34
    go_wp2_with fail
    refine (C1.out _).mono ?_
    rintro e w1 ⟨rfl, g1⟩
    go_wp2_with fail
    refine (C2.out _).mono ?_
    rintro e w2 ⟨rfl, rfl⟩
    go_wp2
    go_ret
    exact ⟨rfl, g1⟩
  · have e0 : (c == 0) = false := beq_eq_false_iff_ne.2 h
    rw [if_neg h]
    clear C2
    go_enter Tryd.func34, Tryd.ntmps34
    go_wp2_with fail
    refine (C1.out _).mono ?_
    rintro e w1 ⟨rfl, g1⟩
    go_wp2
    go_ret
    exact ⟨rfl, g1⟩

/-- a short text -/
@[reducible] def Sh : Type := {s : ByteArray // s.size ≤ 1000}
instance : Inhabited Sh := ⟨⟨⟨#[]⟩, by decide⟩⟩
def encS (x : Sh) : Value := .string x.1
def cfS (x y : Sh) : Int := Srt.ordV x.1.data.toList y.1.data.toList
theorem ltS : ltOf cfS = Srt.lt cfS := rfl
theorem swoS : SWO (ltOf cfS) := Srt.swo (Srt.good_ordV.on fun x : Sh => x.1.data.toList)
theorem cmpS (blk off size : Nat) (w : World) : CmpLays1 Tryd.prog 34 #[] encS cfS blk off size w :=
  fun m os dk hs x y => compareVersion_calls x.1 y.1 _ (Nat.le_trans x.2 (by decide)) (Nat.le_trans y.2 (by decide))

theorem svSort_calls (blk off cap : Nat) (d : Array Sh) (w : World) (hH : Holds encS w blk off d) (hblk : blk < w.heap.size) (hsz : d.size < 4611686018427387904) :
    Calls Tryd.prog 21 #[.slice (some ⟨blk, off, none⟩) d.size cap] w fun e w' => e = .returned (.tuple #[]) ∧ ∃ d' n os, PermIn 0 d.size d d' ∧ SortedIn (ltOf cfS) 0 d.size d' ∧ w' = sortWorld encS w blk off n d' os := by
  have eg : ∀ args w, (callFunc 34 args).run Tryd.prog w = .ok (.enter 34 args) w := enters_of Tryd.func34 (by kernel_rfl) rfl
  have hcon := Any.slices_SortFunc layStr encS (fun _ => rfl) cfS swoS 34 #[] blk off cap d w eg (cmpS blk off d.size w) hH hblk hsz
  change Calls Tryd.prog 33 _ _ _ at hcon
  have HC := Lib.hid hcon
  clear hH hcon
  go_enter Tryd.func21, Tryd.ntmps21
  go_wp2_with fail
  refine HC.out.mono ?_
  rintro e w' ⟨rfl, d', n, os, hp, hs, rfl⟩
  go_wp2
  go_end0
  exact ⟨rfl, d', n, os, hp, hs, rfl⟩

theorem svSort_none (p : Option Addr) (cap : Nat) (w : World) :
    Calls Tryd.prog 21 #[.slice p 0 cap] w fun e w' => e = .returned (.tuple #[]) ∧ w' = w := by
  have hS := Lib.hid fun W => AnyF.slices_SortFunc_none (P := Tryd.prog) (ρ := layStr_ren) { layStr with } p cap (.func (.func 34) #[] #[]) W
  change Hid (∀ W, Calls Tryd.prog 33 _ _ _) at hS
  go_enter Tryd.func21, Tryd.ntmps21
  go_wp2_with fail
  refine (hS.out _).mono ?_
  rintro e w' ⟨rfl, rfl⟩
  go_wp2
  go_end0
  exact ⟨rfl, rfl⟩
end Go.Proofs.YtppnjkfeefmohaaDoor
