/- The path of a module is one of an import, and that is one of a file: the walk of the law FnNarrower. -/
import Derived.Test.YtndimgajkjkgfaaDoorLwAlive
import Derived.Test.YtndimgajkjkgfaaDoorMdR
import Derived.Test.YtndimgajkjkgfaaDoorSpK
namespace Go.Proofs.YtndimgajkjkgfaaDoor
open Go.RowKit Str
set_option linter.unusedVariables false

theorem rune_01 (n : Nat) (h : runeOk 0 n = true) : runeOk 1 n = true := by
  show (modOk n || n == 43) = true
  rw [show modOk n = true from h]; rfl
theorem rune_12 (c : UInt8) (h : runeOk 1 c.toNat = true) : runeOk 2 c.toNat = true := by
  have k : ∀ n : Fin 256, runeOk 1 n.val = true → runeOk 2 n.val = true := by decide +kernel
  exact k ⟨c.toNat, c.toNat_lt⟩ h
theorem elem_01 {l : List UInt8} (h : elemOk 0 l = true) : elemOk 1 l = true := by
  unfold elemOk at *
  simp only [Bool.and_eq_true, List.all_eq_true] at h ⊢
  obtain ⟨⟨⟨⟨⟨⟨h1, h2⟩, h3⟩, h4⟩, h5⟩, h6⟩, h7⟩ := h
  exact ⟨⟨⟨⟨⟨⟨h1, h2⟩, by simp⟩, h4⟩, fun c hc => rune_01 _ (h5 c hc)⟩, h6⟩, h7⟩
theorem elem_12 {l : List UInt8} (h : elemOk 1 l = true) : elemOk 2 l = true := by
  unfold elemOk at *
  simp only [Bool.and_eq_true, List.all_eq_true] at h ⊢
  obtain ⟨⟨⟨⟨⟨⟨h1, h2⟩, h3⟩, h4⟩, h5⟩, h6⟩, h7⟩ := h
  exact ⟨⟨⟨⟨⟨⟨h1, h2⟩, by simp⟩, h4⟩, fun c hc => rune_12 _ (h5 c hc)⟩, h6⟩, rfl⟩
theorem path_01 {l : List UInt8} (h : modI l = true) : pathOk 1 l = true := by
  unfold modI at h
  rw [Bool.and_eq_true] at h
  have h := h.1
  unfold pathOk at *
  rw [Bool.and_eq_true] at h ⊢
  exact ⟨h.1, List.all_eq_true.2 fun x hx => elem_01 (List.all_eq_true.1 h.2 x hx)⟩
theorem path_12 {l : List UInt8} (h : pathOk 1 l = true) : pathOk 2 l = true := by
  unfold pathOk at *
  rw [Bool.and_eq_true] at h ⊢
  exact ⟨by simp, List.all_eq_true.2 fun x hx => elem_12 (List.all_eq_true.1 h.2 x hx)⟩

set_option maxHeartbeats 4000000 in
theorem law_FnNarrower (s : ByteArray) (w : World) (hw : Bad w) (hs : s.size ≤ 140737488351232) :
    Calls Tryd.prog 7 #[.string s] w fun e w' => e = .returned (.bool true) ∧ Below w.heap.size w w' := by
  by_cases h1 : 2147483647 < s.size
  · go_enter Tryd.func7, Tryd.ntmps7
    go_wp2
    go_ret
    exact ⟨rfl, Below.refl _ _⟩
  by_cases h2 : 200 < s.size
  · go_enter Tryd.func7, Tryd.ntmps7
    go_wp2
    go_ret
    exact ⟨rfl, Below.refl _ _⟩
  have HB := Lib.hid hw
  have CA : Hid (∀ w, Bad w → Calls Tryd.prog 19 #[] w fun e w' => e = .returned (.bool true) ∧ Gr w w') := fun w hw => alive_calls w hw
  obtain ⟨o, ho⟩ : ∃ o, Pe.opn 0 s.data.toList = o := ⟨_, rfl⟩
  have CO := Lib.hid fun w => Open_calls s 0 (by omega) o ho w (by omega)
  obtain ⟨d, hd⟩ : ∃ d, Pe.opn 2 s.data.toList = d := ⟨_, rfl⟩
  have CD := Lib.hid fun w => Open_calls s 2 (by omega) d hd w (by omega)
  clear hw
  cases o with
  | true =>
    clear ho
    go_enter Tryd.func7, Tryd.ntmps7
    go_wp2_with fail
    refine (CO.out _).mono ?_
    rintro e w1 ⟨rfl, g1⟩
    go_wp2
    go_ret
    exact ⟨rfl, g1⟩
  | false =>
    cases d with
    | true =>
      clear ho hd
      go_enter Tryd.func7, Tryd.ntmps7
      go_wp2_with fail
      refine (CO.out _).mono ?_
      rintro e w1 ⟨rfl, g1⟩
      go_wp2_with fail
      refine (CD.out _).mono ?_
      rintro e w2 ⟨rfl, g2⟩
      go_wp2
      go_ret
      exact ⟨rfl, g1.trans g2⟩
    | false =>
      have ha := (Pe.opn_parts ho).1
      obtain ⟨a, hA⟩ : ∃ b, modI s.data.toList = b := ⟨_, rfl⟩
      obtain ⟨b, hB⟩ : ∃ b, pathOk 1 s.data.toList = b := ⟨_, rfl⟩
      obtain ⟨c, hC⟩ : ∃ b, pathOk 2 s.data.toList = b := ⟨_, rfl⟩
      have C1 : Hid (∀ w, Bad w → Calls Tryd.prog 18 #[.string s] w fun e w' => e = .returned (.bool a) ∧ Gr w w') := fun w hw => iCheckPath_calls s a hA ha w hw hs
      have C2 : Hid (∀ w, Bad w → Calls Tryd.prog 22 #[.string s] w fun e w' => e = .returned (.bool b) ∧ Gr w w') := fun w hw => iCheckImportPath_calls s b hB ha w hw hs
      have C3 : Hid (∀ w, Bad w → Calls Tryd.prog 20 #[.string s] w fun e w' => e = .returned (.bool c) ∧ Gr w w') := fun w hw => iCheckFilePath_calls s c hC ha w hw hs
      have hab : a = true → b = true := fun h => by rw [← hB]; exact path_01 (hA.trans h)
      have hbc : b = true → c = true := fun h => by rw [← hC]; exact path_12 (hB.trans h)
      clear ho hd ha hA hB hC
      cases a with
      | true =>
        obtain rfl := hab rfl
        obtain rfl := hbc rfl
        clear hab hbc
        go_enter Tryd.func7, Tryd.ntmps7
        go_wp2_with fail
        refine (CO.out _).mono ?_
        rintro e w1 ⟨rfl, g1⟩
        go_wp2_with fail
        refine (CD.out _).mono ?_
        rintro e w2 ⟨rfl, g2⟩
        have G2 := Lib.hid (g1.trans g2)
        clear g1 g2
        have hb2 := Lib.hid (HB.out.keepB G2.out)
        go_wp2_with fail
        refine (C1.out _ hb2.out).mono ?_
        rintro e w3 ⟨rfl, g3⟩
        have hb3 := Lib.hid (hb2.out.keep g3)
        go_wp2_with fail
        refine (C2.out _ hb3.out).mono ?_
        rintro e w4 ⟨rfl, g4⟩
        have hb4 := Lib.hid (hb3.out.keep g4)
        go_wp2_with fail
        refine (C2.out _ hb4.out).mono ?_
        rintro e w5 ⟨rfl, g5⟩
        have hb5 := Lib.hid (hb4.out.keep g5)
        go_wp2_with fail
        refine (C3.out _ hb5.out).mono ?_
        rintro e w6 ⟨rfl, g6⟩
        have hb6 := Lib.hid (hb5.out.keep g6)
        go_wp2_with fail
        refine (CA.out _ hb6.out).mono ?_
        rintro e w7 ⟨rfl, g7⟩
        go_wp2
        go_ret
        exact ⟨rfl, ((((G2.out.gr g3).gr g4).gr g5).gr g6).gr g7⟩
      | false =>
        clear hab
        cases b with
        | true =>
          obtain rfl := hbc rfl
          clear hbc
          go_enter Tryd.func7, Tryd.ntmps7
          go_wp2_with fail
          refine (CO.out _).mono ?_
          rintro e w1 ⟨rfl, g1⟩
          go_wp2_with fail
          refine (CD.out _).mono ?_
          rintro e w2 ⟨rfl, g2⟩
          have G2 := Lib.hid (g1.trans g2)
          clear g1 g2
          have hb2 := Lib.hid (HB.out.keepB G2.out)
          go_wp2_with fail
          refine (C1.out _ hb2.out).mono ?_
          rintro e w3 ⟨rfl, g3⟩
          have hb3 := Lib.hid (hb2.out.keep g3)
          go_wp2_with fail
          refine (C2.out _ hb3.out).mono ?_
          rintro e w4 ⟨rfl, g4⟩
          have hb4 := Lib.hid (hb3.out.keep g4)
          go_wp2_with fail
          refine (C3.out _ hb4.out).mono ?_
          rintro e w6 ⟨rfl, g6⟩
          have hb6 := Lib.hid (hb4.out.keep g6)
          go_wp2_with fail
          refine (CA.out _ hb6.out).mono ?_
          rintro e w7 ⟨rfl, g7⟩
          go_wp2
          go_ret
          exact ⟨rfl, (((G2.out.gr g3).gr g4).gr g6).gr g7⟩
        | false =>
          clear hbc C3
          go_enter Tryd.func7, Tryd.ntmps7
          go_wp2_with fail
          refine (CO.out _).mono ?_
          rintro e w1 ⟨rfl, g1⟩
          go_wp2_with fail
          refine (CD.out _).mono ?_
          rintro e w2 ⟨rfl, g2⟩
          have G2 := Lib.hid (g1.trans g2)
          clear g1 g2
          have hb2 := Lib.hid (HB.out.keepB G2.out)
          go_wp2_with fail
          refine (C1.out _ hb2.out).mono ?_
          rintro e w3 ⟨rfl, g3⟩
          have hb3 := Lib.hid (hb2.out.keep g3)
          go_wp2_with fail
          refine (C2.out _ hb3.out).mono ?_
          rintro e w4 ⟨rfl, g4⟩
          have hb4 := Lib.hid (hb3.out.keep g4)
          go_wp2_with fail
          refine (CA.out _ hb4.out).mono ?_
          rintro e w7 ⟨rfl, g7⟩
          go_wp2
          go_ret
          exact ⟨rfl, ((G2.out.gr g3).gr g4).gr g7⟩
end Go.Proofs.YtndimgajkjkgfaaDoor
