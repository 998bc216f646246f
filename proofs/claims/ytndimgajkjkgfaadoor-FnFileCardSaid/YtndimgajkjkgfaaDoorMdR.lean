/- Walks of package module's CheckImportPath and CheckFilePath, and of the thin package's. -/
import Derived.Test.YtndimgajkjkgfaaDoorMdP
namespace Go.Proofs.YtndimgajkjkgfaaDoor
open Go.RowKit Str
set_option linter.unusedVariables false

theorem CheckImportPath_calls (s : ByteArray) (ha : Asc s.data.toList) (w : World) (hw : Bad w) (hs : s.size ≤ 140737488351232) :
    Calls Tryd.prog 39 #[.string s] w fun e w' => (∃ x, e = .returned x ∧ Err (pathOk 1 s.data.toList) x) ∧ Gr w w' := by
  have H := Lib.hid (checkPath_calls s 1 (by omega) ha w hw hs)
  generalize pathOk 1 s.data.toList = b at *
  clear ha hw
  cases b with
  | true =>
    go_enter Tryd.func39, Tryd.ntmps39
    go_wp2_with fail
    refine H.out.mono ?_
    rintro e w1 ⟨⟨x, rfl, hx⟩, hg⟩
    obtain rfl : x = .nilIface := hx
    go_wp2
    go_ret
    exact ⟨⟨_, rfl, rfl⟩, hg⟩
  | false =>
    go_enter Tryd.func39, Tryd.ntmps39
    go_wp2_with fail
    refine H.out.mono ?_
    rintro e w1 ⟨⟨x, rfl, hx⟩, hg⟩
    obtain ⟨t, a, rfl⟩ : ∃ t a, x = .iface t (.pointer (some a)) := hx
    go_wp2
    go_ret
    exact ⟨⟨_, rfl, _, _, rfl⟩, hg.alloc _⟩

theorem iCheckImportPath_calls (s : ByteArray) (b : Bool) (hb : pathOk 1 s.data.toList = b) (ha : Asc s.data.toList) (w : World) (hw : Bad w) (hs : s.size ≤ 140737488351232) :
    Calls Tryd.prog 22 #[.string s] w fun e w' => e = .returned (.bool b) ∧ Gr w w' := by
  have H := Lib.hid (CheckImportPath_calls s ha w hw hs)
  rw [hb] at H
  clear hb ha hw
  cases b with
  | true =>
    go_enter Tryd.func22, Tryd.ntmps22
    go_wp2_with fail
    refine H.out.mono ?_
    rintro e w1 ⟨⟨x, rfl, hx⟩, hg⟩
    obtain rfl : x = .nilIface := hx
    go_wp2
    go_ret
    exact ⟨rfl, hg⟩
  | false =>
    go_enter Tryd.func22, Tryd.ntmps22
    go_wp2_with fail
    refine H.out.mono ?_
    rintro e w1 ⟨⟨x, rfl, hx⟩, hg⟩
    obtain ⟨t, a, rfl⟩ : ∃ t a, x = .iface t (.pointer (some a)) := hx
    go_wp2
    go_ret
    exact ⟨rfl, hg⟩

theorem CheckFilePath_calls (s : ByteArray) (ha : Asc s.data.toList) (w : World) (hw : Bad w) (hs : s.size ≤ 140737488351232) :
    Calls Tryd.prog 38 #[.string s] w fun e w' => (∃ x, e = .returned x ∧ Err (pathOk 2 s.data.toList) x) ∧ Gr w w' := by
  have H := Lib.hid (checkPath_calls s 2 (by omega) ha w hw hs)
  generalize pathOk 2 s.data.toList = b at *
  clear ha hw
  cases b with
  | true =>
    go_enter Tryd.func38, Tryd.ntmps38
    go_wp2_with fail
    refine H.out.mono ?_
    rintro e w1 ⟨⟨x, rfl, hx⟩, hg⟩
    obtain rfl : x = .nilIface := hx
    go_wp2
    go_ret
    exact ⟨⟨_, rfl, rfl⟩, hg⟩
  | false =>
    go_enter Tryd.func38, Tryd.ntmps38
    go_wp2_with fail
    refine H.out.mono ?_
    rintro e w1 ⟨⟨x, rfl, hx⟩, hg⟩
    obtain ⟨t, a, rfl⟩ : ∃ t a, x = .iface t (.pointer (some a)) := hx
    go_wp2
    go_ret
    exact ⟨⟨_, rfl, _, _, rfl⟩, hg.alloc _⟩

theorem iCheckFilePath_calls (s : ByteArray) (b : Bool) (hb : pathOk 2 s.data.toList = b) (ha : Asc s.data.toList) (w : World) (hw : Bad w) (hs : s.size ≤ 140737488351232) :
    Calls Tryd.prog 20 #[.string s] w fun e w' => e = .returned (.bool b) ∧ Gr w w' := by
  have H := Lib.hid (CheckFilePath_calls s ha w hw hs)
  rw [hb] at H
  clear hb ha hw
  cases b with
  | true =>
    go_enter Tryd.func20, Tryd.ntmps20
    go_wp2_with fail
    refine H.out.mono ?_
    rintro e w1 ⟨⟨x, rfl, hx⟩, hg⟩
    obtain rfl : x = .nilIface := hx
    go_wp2
    go_ret
    exact ⟨rfl, hg⟩
  | false =>
    go_enter Tryd.func20, Tryd.ntmps20
    go_wp2_with fail
    refine H.out.mono ?_
    rintro e w1 ⟨⟨x, rfl, hx⟩, hg⟩
    obtain ⟨t, a, rfl⟩ : ∃ t a, x = .iface t (.pointer (some a)) := hx
    go_wp2
    go_ret
    exact ⟨rfl, hg⟩

end Go.Proofs.YtndimgajkjkgfaaDoor
