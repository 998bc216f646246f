/- The thin package's IsValid and CheckPath; the laws' alive. -/
import Derived.Test.YtppnjkfeefmohaaDoorMdQ
import Derived.Test.YtppnjkfeefmohaaDoorSvI
import Derived.Deep.RegionHeld3
namespace Go.Proofs.YtppnjkfeefmohaaDoor
open Go.RowKit Str
set_option linter.unusedVariables false

theorem iIsValid_calls (s : ByteArray) (w : World) (hs : s.size ≤ 140737488351232) :
    Calls Tryd.prog 18 #[.string s] w fun e w' => e = .returned (.bool (Ver.parse s.data.toList).isSome) ∧ Gr w w' := by
  have H := Lib.hid (IsValid_calls s w hs)
  go_enter Tryd.func18, Tryd.ntmps18
  go_wp2_with fail
  refine H.out.mono ?_
  rintro e w1 ⟨rfl, hg⟩
  go_wp2
  go_ret
  exact ⟨rfl, hg⟩

theorem iCheckPath_calls (s : ByteArray) (b : Bool) (hb : modI s.data.toList = b) (ha : Asc s.data.toList) (w : World) (hw : Bad w) (hs : s.size ≤ 140737488351232) :
    Calls Tryd.prog 19 #[.string s] w fun e w' => e = .returned (.bool b) ∧ Gr w w' := by
  have H := Lib.hid (CheckPath_calls s ha w hw hs)
  rw [hb] at H
  clear hb ha hw
  cases b with
  | true =>
    go_enter Tryd.func19, Tryd.ntmps19
    go_wp2_with fail
    refine H.out.mono ?_
    rintro e w1 ⟨⟨x, rfl, hx⟩, hg⟩
    obtain rfl : x = .nilIface := hx
    go_wp2
    go_ret
    exact ⟨rfl, hg⟩
  | false =>
    go_enter Tryd.func19, Tryd.ntmps19
    go_wp2_with fail
    refine H.out.mono ?_
    rintro e w1 ⟨⟨x, rfl, hx⟩, hg⟩
    obtain ⟨t, a, rfl⟩ : ∃ t a, x = .iface t (.pointer (some a)) := hx
    go_wp2
    go_ret
    exact ⟨rfl, hg⟩

theorem alive_calls (w : World) (hw : Bad w) : Calls Tryd.prog 9 #[] w fun e w' => e = .returned (.bool true) ∧ Gr w w' := by
  have C1 : Hid (∀ w, Calls Tryd.prog 18 #[.string ⟨#[118, 49, 46, 50, 46, 51]⟩] w fun e w' => e = .returned (.bool true) ∧ Gr w w') := fun w =>
    (iIsValid_calls ⟨#[118, 49, 46, 50, 46, 51]⟩ w (by decide)).mono fun e w' ⟨p, q⟩ => ⟨p.trans (ret_bool (by kernel_rfl)), q⟩
  have C2 : Hid (∀ w, Bad w → Calls Tryd.prog 19 #[.string ⟨#[97, 46, 98, 47, 99]⟩] w fun e w' => e = .returned (.bool true) ∧ Gr w w') := fun w hw =>
    iCheckPath_calls ⟨#[97, 46, 98, 47, 99]⟩ true (by kernel_rfl) (by unfold Asc; decide) w hw (by decide)
  have HB := Lib.hid hw
  clear hw
  go_enter Tryd.func9, Tryd.ntmps9
  go_wp2_with fail
  refine (C1.out _).mono ?_
  rintro e w1 ⟨rfl, g1⟩
  have hb1 := Lib.hid (HB.out.keep g1)
  go_wp2_with fail
  refine (C2.out _ hb1.out).mono ?_
  rintro e w2 ⟨rfl, g2⟩
  go_wp2
  go_ret
  exact ⟨rfl, g1.trans g2⟩
end Go.Proofs.YtppnjkfeefmohaaDoor
