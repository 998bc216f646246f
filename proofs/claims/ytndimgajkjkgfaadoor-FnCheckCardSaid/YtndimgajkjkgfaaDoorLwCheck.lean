/- A path and a version are valid exactly if each of them is and they go with each other: the walk of the law FnCheck. -/
import Derived.Test.YtndimgajkjkgfaaDoorLwAlive
import Derived.Test.YtndimgajkjkgfaaDoorSpM
import Derived.Test.YtndimgajkjkgfaaDoorMj
import Derived.Test.YtndimgajkjkgfaaDoorSpMaj
namespace Go.Proofs.YtndimgajkjkgfaaDoor
open Go.RowKit Str
set_option linter.unusedVariables false

namespace Mj
theorem strip_good (c : UInt8) (r : List UInt8) (hc : c = 47 ∨ c = 46) : ∃ r', strip (c :: 118 :: r) = c :: 118 :: r' := by
  unfold strip
  split
  case isTrue h =>
    rw [Bool.and_eq_true] at h
    have hs : Pth.uns.isSuffixOf (c :: 118 :: r) = true := h.2
    obtain ⟨t, ht⟩ := List.isSuffixOf_iff_suffix.1 hs
    match t, ht with
    | [], ht =>
      have h0 := (List.cons.inj ht).1
      rcases hc with rfl | rfl <;> exact absurd h0 (by decide)
    | [x], ht =>
      have h0 := (List.cons.inj (List.cons.inj ht).2).1
      exact absurd h0 (by decide)
    | x :: y :: t', ht =>
      obtain ⟨rfl, h1⟩ := List.cons.inj ht
      obtain ⟨rfl, h2⟩ := List.cons.inj h1
      have h2 : t' ++ Pth.uns = r := h2
      refine ⟨t', ?_⟩
      rw [← h2]
      have e : (x :: 118 :: (t' ++ Pth.uns)).length - 9 = (x :: 118 :: t').length := by
        have : Pth.uns.length = 9 := rfl
        simp only [List.length_cons, List.length_append, this]; omega
      show List.take _ (x :: 118 :: (t' ++ Pth.uns)) = _
      rw [e]
      exact List.take_left' (l₁ := x :: 118 :: t') rfl
  case isFalse => exact ⟨r, rfl⟩
theorem strip_nil : strip [] = [] := rfl
end Mj

theorem two_drop {l : List UInt8} {k : Nat} {a b : UInt8} (h : Pth.two l k a b) : ∃ r, l.drop (k - 2) = a :: b :: r := by
  obtain ⟨h1, h2, h3⟩ := h
  obtain ⟨q1, h2⟩ := List.getElem?_eq_some_iff.1 h2
  obtain ⟨q2, h3⟩ := List.getElem?_eq_some_iff.1 h3
  refine ⟨l.drop (k - 2 + 1 + 1), ?_⟩
  rw [List.drop_eq_getElem_cons q1, h2, List.drop_eq_getElem_cons (by omega)]
  congr 2
  rw [← h3]; congr 1; omega

/-- the version of a path, as it is cut, is none or begins with a sign and v -/
theorem split_head (l : List UInt8) : (Pth.splitI l).2.1 = [] ∨ ∃ c r, (Pth.splitI l).2.1 = c :: 118 :: r ∧ (c = 47 ∨ c = 46) := by
  unfold Pth.splitI
  split
  · unfold Pth.gopI
    split
    · exact .inl rfl
    · rename_i h
      split
      · exact .inl rfl
      · obtain ⟨r, hr⟩ := two_drop (Classical.not_not.1 h)
        exact .inr ⟨46, r, hr, .inr rfl⟩
  · unfold Pth.plainV
    split
    · exact .inl rfl
    · rename_i h
      split
      · exact .inl rfl
      · obtain ⟨r, hr⟩ := two_drop (Classical.not_not.1 (fun h2 => h (.inr h2)))
        exact .inr ⟨47, r, hr, .inl rfl⟩

theorem major_good (l : List UInt8) : (Mj.strip (Pth.splitI l).2.1 = [] ∨ (Mj.strip (Pth.splitI l).2.1).head? = some 47 ∨ (Mj.strip (Pth.splitI l).2.1).head? = some 46) ∧ (Mj.strip (Pth.splitI l).2.1 = [] ∨ (Mj.strip (Pth.splitI l).2.1).tail ≠ []) := by
  rcases split_head l with h | ⟨c, r, h, hc⟩
  · rw [h]; exact ⟨.inl rfl, .inl rfl⟩
  · obtain ⟨r', hr⟩ := Mj.strip_good c r hc
    rw [h, hr]
    refine ⟨.inr ?_, .inr (by simp)⟩
    rcases hc with rfl | rfl
    · exact .inl rfl
    · exact .inr rfl

/-- what Check asks -/
def chkI (l v : List UInt8) : Bool := modI l && ((Ver.parse v).isSome && Mj.okI v (Mj.strip (Pth.splitI l).2.1))

set_option maxHeartbeats 4000000 in
theorem Check_calls (s v : ByteArray) (ha : Asc s.data.toList) (w : World) (hw : Bad w) (hs : s.size ≤ 140737488351232) (hv : v.size ≤ 140737488351232) :
    Calls Tryd.prog 49 #[.string s, .string v] w fun e w' => (∃ x, e = .returned x ∧ Err (chkI s.data.toList v.data.toList) x) ∧ Gr w w' := by
  have H1 := Lib.hid (CheckPath_calls s ha w hw hs)
  have H2 := Lib.hid fun w => IsValid_calls v w hv
  have H3 := Lib.hid fun w => SplitPathVersion_calls s w hs
  have hgl := congrArg List.length (Pth.splitI_glue s.data.toList)
  rw [List.length_append, ← Lib.size_eq] at hgl
  obtain ⟨hgood, _⟩ := major_good s.data.toList
  have hm : (B (Pth.splitI s.data.toList).2.1).data.toList = (Pth.splitI s.data.toList).2.1 := B_data _
  have H4 := Lib.hid fun w => CheckPathMajor_calls v (B (Pth.splitI s.data.toList).2.1) w hv (by rw [B_size]; omega) (by rw [hm]; exact hgood)
  rw [hm] at H4
  unfold chkI
  clear hgl hgood hm ha hw
  obtain ⟨b1, hb1⟩ : ∃ b, modI s.data.toList = b := ⟨_, rfl⟩
  obtain ⟨b2, hb2⟩ : ∃ b, (Ver.parse v.data.toList).isSome = b := ⟨_, rfl⟩
  obtain ⟨b3, hb3⟩ : ∃ b, Mj.okI v.data.toList (Mj.strip (Pth.splitI s.data.toList).2.1) = b := ⟨_, rfl⟩
  rw [hb1] at H1 ⊢
  rw [hb2] at H2 ⊢
  rw [hb3] at H4 ⊢
  clear hb1 hb2 hb3
  obtain ⟨⟨x1, x2, x3⟩, hx⟩ : ∃ x, Pth.splitI s.data.toList = x := ⟨_, rfl⟩
  rw [hx] at H3 H4
  have H4' : Hid (∀ w, Calls Tryd.prog 64 #[.string v, .string (B x2)] w fun e w' => (∃ x, e = .returned x ∧ Err b3 x) ∧ Gr w w') := H4.out
  unfold splitVal at H3
  have H3' : Hid (∀ w, Calls Tryd.prog 58 #[.string s] w fun e w' => e = .returned (.tuple #[.string (B x1), .string (B x2), .bool x3]) ∧ Drew w w') := H3.out
  clear H3 H4 hx
  generalize B x1 = X1 at *
  generalize B x2 = X2 at *
  cases b1 with
  | false =>
    clear H2 H3' H4'
    go_enter Tryd.func49, Tryd.ntmps49
    go_wp2_with fail
    refine H1.out.mono ?_
    rintro e w1 ⟨⟨x, rfl, hx⟩, g1⟩
    obtain ⟨t, a, rfl⟩ : ∃ t a, x = .iface t (.pointer (some a)) := hx
    go_wp2
    go_ret
    exact ⟨⟨_, rfl, _, _, rfl⟩, g1⟩
  | true =>
    cases b2 with
    | false =>
      clear H3' H4'
      go_enter Tryd.func49, Tryd.ntmps49
      go_wp2_with fail
      refine H1.out.mono ?_
      rintro e w1 ⟨⟨x, rfl, hx⟩, g1⟩
      obtain rfl : x = .nilIface := hx
      go_wp2_with fail
      refine (H2.out _).mono ?_
      rintro e w2 ⟨rfl, g2⟩
      go_wp2_with fail
      refine (errorsNew_calls _ _).mono ?_
      rintro e w3 ⟨⟨a, rfl⟩, g3⟩
      go_wp2
      go_ret
      exact ⟨⟨_, rfl, _, _, rfl⟩, (((g1.trans g2).trans g3).alloc _).alloc _⟩
    | true =>
      cases b3 with
      | false =>
        go_enter Tryd.func49, Tryd.ntmps49
        go_wp2_with fail
        refine H1.out.mono ?_
        rintro e w1 ⟨⟨x, rfl, hx⟩, g1⟩
        obtain rfl : x = .nilIface := hx
        go_wp2_with fail
        refine (H2.out _).mono ?_
        rintro e w2 ⟨rfl, g2⟩
        go_wp2_with fail
        refine (H3'.out _).mono ?_
        rintro e w3 ⟨rfl, d3⟩
        go_wp2_with fail
        refine (H4'.out _).mono ?_
        rintro e w4 ⟨⟨x, rfl, hx⟩, g4⟩
        obtain ⟨t, a, rfl⟩ : ∃ t a, x = .iface t (.pointer (some a)) := hx
        go_wp2
        go_ret
        exact ⟨⟨_, rfl, _, _, rfl⟩, (((g1.trans g2).trans (Gr.of_drew d3)).trans g4).alloc _⟩
      | true =>
        go_enter Tryd.func49, Tryd.ntmps49
        go_wp2_with fail
        refine H1.out.mono ?_
        rintro e w1 ⟨⟨x, rfl, hx⟩, g1⟩
        obtain rfl : x = .nilIface := hx
        go_wp2_with fail
        refine (H2.out _).mono ?_
        rintro e w2 ⟨rfl, g2⟩
        go_wp2_with fail
        refine (H3'.out _).mono ?_
        rintro e w3 ⟨rfl, d3⟩
        go_wp2_with fail
        refine (H4'.out _).mono ?_
        rintro e w4 ⟨⟨x, rfl, hx⟩, g4⟩
        obtain rfl : x = .nilIface := hx
        go_wp2
        go_ret
        exact ⟨⟨_, rfl, rfl⟩, ((g1.trans g2).trans (Gr.of_drew d3)).trans g4⟩

theorem iCheck_calls (s v : ByteArray) (b : Bool) (hb : chkI s.data.toList v.data.toList = b) (ha : Asc s.data.toList) (w : World) (hw : Bad w) (hs : s.size ≤ 140737488351232) (hv : v.size ≤ 140737488351232) :
    Calls Tryd.prog 30 #[.string s, .string v] w fun e w' => e = .returned (.bool b) ∧ Gr w w' := by
  have H := Lib.hid (Check_calls s v ha w hw hs hv)
  rw [hb] at H
  clear hb ha hw
  cases b with
  | true =>
    go_enter Tryd.func30, Tryd.ntmps30
    go_wp2_with fail
    refine H.out.mono ?_
    rintro e w1 ⟨⟨x, rfl, hx⟩, hg⟩
    obtain rfl : x = .nilIface := hx
    go_wp2
    go_ret
    exact ⟨rfl, hg⟩
  | false =>
    go_enter Tryd.func30, Tryd.ntmps30
    go_wp2_with fail
    refine H.out.mono ?_
    rintro e w1 ⟨⟨x, rfl, hx⟩, hg⟩
    obtain ⟨t, a, rfl⟩ : ∃ t a, x = .iface t (.pointer (some a)) := hx
    go_wp2
    go_ret
    exact ⟨rfl, hg⟩

set_option maxHeartbeats 4000000 in
theorem law_FnCheck (s v : ByteArray) (w : World) (hw : Bad w) (hs : s.size ≤ 140737488351232) (hv : v.size ≤ 140737488351232) :
    Calls Tryd.prog 11 #[.string s, .string v] w fun e w' => e = .returned (.bool true) ∧ Below w.heap.size w w' := by
  by_cases h1 : 2147483647 < s.size
  · go_enter Tryd.func11, Tryd.ntmps11
    go_wp2
    go_ret
    exact ⟨rfl, Below.refl _ _⟩
  by_cases h1' : 2147483647 < v.size
  · go_enter Tryd.func11, Tryd.ntmps11
    go_wp2
    go_ret
    exact ⟨rfl, Below.refl _ _⟩
  by_cases h2 : 200 < s.size
  · go_enter Tryd.func11, Tryd.ntmps11
    go_wp2
    go_ret
    exact ⟨rfl, Below.refl _ _⟩
  by_cases h2' : 200 < v.size
  · go_enter Tryd.func11, Tryd.ntmps11
    go_wp2
    go_ret
    exact ⟨rfl, Below.refl _ _⟩
  have HB := Lib.hid hw
  have CA : Hid (∀ w, Bad w → Calls Tryd.prog 19 #[] w fun e w' => e = .returned (.bool true) ∧ Gr w w') := fun w hw => alive_calls w hw
  obtain ⟨o, ho⟩ : ∃ o, Pe.opn 0 s.data.toList = o := ⟨_, rfl⟩
  have CO := Lib.hid fun w => Open_calls s 0 (by omega) o ho w (by omega)
  obtain ⟨d, hd⟩ : ∃ d, Pth.behind s.data.toList = d := ⟨_, rfl⟩
  have CD := Lib.hid fun w => behind_calls s w hs
  rw [hd] at CD
  clear hw
  cases o with
  | true =>
    clear ho
    go_enter Tryd.func11, Tryd.ntmps11
    go_wp2_with fail
    refine (CO.out _).mono ?_
    rintro e w1 ⟨rfl, g1⟩
    go_wp2
    go_ret
    exact ⟨rfl, g1⟩
  | false =>
    cases d with
    | true =>
      clear ho hd
      go_enter Tryd.func11, Tryd.ntmps11
      go_wp2_with fail
      refine (CO.out _).mono ?_
      rintro e w1 ⟨rfl, g1⟩
      go_wp2_with fail
      refine (CD.out _).mono ?_
      rintro e w2 ⟨rfl, d2⟩
      go_wp2
      go_ret
      exact ⟨rfl, g1.dr d2⟩
    | false =>
      obtain ⟨b, hb⟩ : ∃ b, Pe.modS s.data.toList = b := ⟨_, rfl⟩
      have hbi := (Pe.module_same ho hd).trans hb
      have ha := (Pe.opn_parts ho).1
      have C2 := Lib.hid fun w => spModule_calls s b hb w (by omega)
      obtain ⟨hgood, hne⟩ := major_good s.data.toList
      obtain ⟨p, hp⟩ : ∃ b, (Ver.parse v.data.toList).isSome = b := ⟨_, rfl⟩
      obtain ⟨m, hm⟩ : ∃ b, Mj.okS v.data.toList (Mj.strip (Pth.splitI s.data.toList).2.1) = b := ⟨_, rfl⟩
      have hmi := (Mj.ok_same v.data.toList _ hne).trans hm
      have C1 := Lib.hid fun w hw => iCheck_calls s v (b && (p && m)) (by unfold chkI; rw [hbi, hp, hmi]) ha w hw hs hv
      have CS := Lib.hid fun w => spSplit_calls s w hs
      rw [← Pth.split_same hd] at CS
      have hgl := congrArg List.length (Pth.splitI_glue s.data.toList)
      rw [List.length_append, ← Lib.size_eq] at hgl
      have CM := Lib.hid fun w => spMajor_calls v (B (Pth.splitI s.data.toList).2.1) w (by omega) (by rw [B_size]; omega)
      rw [B_data, hm] at CM
      have CP : Hid (∀ w, Calls Tryd.prog 27 #[.string v] w fun e w' => (∃ y1 y2 y3 y4 y5 y6 : ByteArray, e = .returned (.tuple #[.agg #[.string y1, .string y2, .string y3, .string y4, .string y5, .string y6], .bool p])) ∧ Gr w w') := fun w =>
        (Parse_calls v w hv).mono fun e w' ⟨h, g⟩ => ⟨by
          unfold ParseS at h
          revert h hp
          cases Ver.parse v.data.toList with
          | none => rintro rfl h; exact ⟨_, _, _, _, _, _, h⟩
          | some q => rintro rfl h; exact ⟨_, _, _, _, _, _, h⟩, g⟩
      obtain ⟨⟨x1, x2, x3⟩, hx⟩ : ∃ x, Pth.splitI s.data.toList = x := ⟨_, rfl⟩
      rw [hx] at CS CM
      have CM' : Hid (∀ w, Calls Tryd.prog 29 #[.string v, .string (B x2)] w fun e w' => e = .returned (.bool m) ∧ Gr w w') := CM.out
      unfold splitVal at CS
      have CS' : Hid (∀ w, Calls Tryd.prog 28 #[.string s] w fun e w' => e = .returned (.tuple #[.string (B x1), .string (B x2), .bool x3]) ∧ Drew w w') := CS.out
      clear CM CS hx hgl hmi hm hp hgood hne ha hbi hb ho hd
      generalize B x1 = X1 at *
      generalize B x2 = X2 at *
      cases b with
      | false =>
        have C1' : Hid (∀ w, Bad w → Calls Tryd.prog 30 #[.string s, .string v] w fun e w' => e = .returned (.bool false) ∧ Gr w w') := C1.out
        clear C1 CM'
        cases p
        all_goals
          go_enter Tryd.func11, Tryd.ntmps11
          go_wp2_with fail
          refine (CO.out _).mono ?_
          rintro e w1 ⟨rfl, g1⟩
          go_wp2_with fail
          refine (CD.out _).mono ?_
          rintro e w2 ⟨rfl, d2⟩
          go_wp2_with fail
          refine (CP.out _).mono ?_
          rintro e w3 ⟨⟨y1, y2, y3, y4, y5, y6, rfl⟩, g3⟩
          have G3 := Lib.hid ((g1.dr d2).gr g3)
          clear g1 d2 g3
          go_wp2_with fail
          refine (CS'.out _).mono ?_
          rintro e w4 ⟨rfl, d4⟩
          have G4 := Lib.hid ((G3.out.alloc _).dr d4)
          clear d4
          go_wp2_with fail
          refine (C2.out _).mono ?_
          rintro e w5 ⟨rfl, g5⟩
          have G5 := Lib.hid (G4.out.trans g5)
          clear g5
          have hb5 := Lib.hid (HB.out.keepB G5.out)
          go_wp2_with fail
          refine (C1'.out _ hb5.out).mono ?_
          rintro e w6 ⟨rfl, g6⟩
          have hb6 := Lib.hid (hb5.out.keep g6)
          go_wp2_with fail
          refine (CA.out _ hb6.out).mono ?_
          rintro e w7 ⟨rfl, g7⟩
          go_wp2
          go_ret
          exact ⟨rfl, (G5.out.gr g6).gr g7⟩
      | true =>
        cases p with
        | false =>
          have C1' : Hid (∀ w, Bad w → Calls Tryd.prog 30 #[.string s, .string v] w fun e w' => e = .returned (.bool false) ∧ Gr w w') := C1.out
          clear C1 CM'
          go_enter Tryd.func11, Tryd.ntmps11
          go_wp2_with fail
          refine (CO.out _).mono ?_
          rintro e w1 ⟨rfl, g1⟩
          go_wp2_with fail
          refine (CD.out _).mono ?_
          rintro e w2 ⟨rfl, d2⟩
          go_wp2_with fail
          refine (CP.out _).mono ?_
          rintro e w3 ⟨⟨y1, y2, y3, y4, y5, y6, rfl⟩, g3⟩
          have G3 := Lib.hid ((g1.dr d2).gr g3)
          clear g1 d2 g3
          go_wp2_with fail
          refine (CS'.out _).mono ?_
          rintro e w4 ⟨rfl, d4⟩
          have G4 := Lib.hid ((G3.out.alloc _).dr d4)
          clear d4
          go_wp2_with fail
          refine (C2.out _).mono ?_
          rintro e w5 ⟨rfl, g5⟩
          have G5 := Lib.hid (G4.out.trans g5)
          clear g5
          have hb5 := Lib.hid (HB.out.keepB G5.out)
          go_wp2_with fail
          refine (C1'.out _ hb5.out).mono ?_
          rintro e w6 ⟨rfl, g6⟩
          have hb6 := Lib.hid (hb5.out.keep g6)
          go_wp2_with fail
          refine (CA.out _ hb6.out).mono ?_
          rintro e w7 ⟨rfl, g7⟩
          go_wp2
          go_ret
          exact ⟨rfl, (G5.out.gr g6).gr g7⟩
        | true =>
          have C1' : Hid (∀ w, Bad w → Calls Tryd.prog 30 #[.string s, .string v] w fun e w' => e = .returned (.bool m) ∧ Gr w w') := C1.out
          clear C1
          cases m
          all_goals
            go_enter Tryd.func11, Tryd.ntmps11
            go_wp2_with fail
            refine (CO.out _).mono ?_
            rintro e w1 ⟨rfl, g1⟩
            go_wp2_with fail
            refine (CD.out _).mono ?_
            rintro e w2 ⟨rfl, d2⟩
            go_wp2_with fail
            refine (CP.out _).mono ?_
            rintro e w3 ⟨⟨y1, y2, y3, y4, y5, y6, rfl⟩, g3⟩
            have G3 := Lib.hid ((g1.dr d2).gr g3)
            clear g1 d2 g3
            go_wp2_with fail
            refine (CS'.out _).mono ?_
            rintro e w4 ⟨rfl, d4⟩
            have G4 := Lib.hid ((G3.out.alloc _).dr d4)
            clear d4
            go_wp2_with fail
            refine (C2.out _).mono ?_
            rintro e w5 ⟨rfl, g5⟩
            have G5 := Lib.hid (G4.out.trans g5)
            clear g5
            have hb5 := Lib.hid (HB.out.keepB G5.out)
            go_wp2_with fail
            refine (CM'.out _).mono ?_
            rintro e w6 ⟨rfl, g6⟩
            have hb6 := Lib.hid (hb5.out.keep g6)
            go_wp2_with fail
            refine (C1'.out _ hb6.out).mono ?_
            rintro e w7 ⟨rfl, g7⟩
            have hb7 := Lib.hid (hb6.out.keep g7)
            go_wp2_with fail
            refine (CA.out _ hb7.out).mono ?_
            rintro e w8 ⟨rfl, g8⟩
            go_wp2
            go_ret
            exact ⟨rfl, ((G5.out.gr g6).gr g7).gr g8⟩
end Go.Proofs.YtndimgajkjkgfaaDoor
