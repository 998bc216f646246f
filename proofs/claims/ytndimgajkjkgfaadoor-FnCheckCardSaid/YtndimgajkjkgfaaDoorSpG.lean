/- Walks of the reference's Begins, ends and Split; and of the laws' behind. -/
import Derived.Test.YtndimgajkjkgfaaDoorMdS
import Derived.Test.YtndimgajkjkgfaaDoorSpC
namespace Go.Proofs.YtndimgajkjkgfaaDoor
open Go.RowKit Str
set_option linter.unusedVariables false

theorem eq_of_list (s t : ByteArray) : (s.toList == t.toList) = decide (s.data.toList = t.data.toList) := by
  rw [Lib.toList_data, Lib.toList_data, Bool.eq_iff_iff, beq_iff_eq, decide_eq_true_eq]

set_option maxHeartbeats 1000000 in
theorem Begins_calls (s t : ByteArray) (w : World) (hs : s.size ≤ 140737488351232) :
    Calls Tryd.prog 47 #[.string s, .string t] w fun e w' => e = .returned (.bool (t.data.toList.isPrefixOf s.data.toList)) ∧ Drew w w' := by
  have HV := Lib.hid (prefix_take (p := t.data.toList) (l := s.data.toList))
  by_cases h : t.size ≤ s.size
  · obtain ⟨f, hf⟩ : ∃ f, s.extract 0 t.size = f := ⟨_, rfl⟩
    have E := eq_of_list f t
    have hfl : f.data.toList = s.data.toList.take t.size := by rw [← hf, Lib.extract_data]; simp
    rw [hfl, Lib.size_eq, ← HV.out] at E
    generalize t.data.toList.isPrefixOf s.data.toList = b at *
    clear HV hfl
    cases b
    all_goals
      go_enter Tryd.func47, Tryd.ntmps47
      go_wp2
      try (go_quiet (fail); go_wp2)
      go_ret
      exact ⟨rfl, by first | exact Drew.refl _ | exact ⟨_, rfl⟩⟩
  · have HF : Hid (t.data.toList.isPrefixOf s.data.toList = false) := by
      show _ = _
      rw [HV.out, decide_eq_false]
      intro e
      have := congrArg List.length e
      rw [List.length_take, ← Lib.size_eq, ← Lib.size_eq] at this
      omega
    clear HV
    go_enter Tryd.func47, Tryd.ntmps47
    go_wp2
    try (go_quiet (fail); go_wp2)
    go_ret
    exact ⟨by rw [HF.out]; first | rfl | (simp; omega), by first | exact Drew.refl _ | exact ⟨_, rfl⟩⟩

theorem suffix_take (p l : List UInt8) : p.isSuffixOf l = (decide (p.length ≤ l.length) && decide (l.drop (l.length - p.length) = p)) := by
  rw [Bool.eq_iff_iff, Pth.suffix_drop, Bool.and_eq_true, decide_eq_true_eq, decide_eq_true_eq]

set_option maxHeartbeats 1000000 in
theorem ends_calls (s t : ByteArray) (w : World) (hs : s.size ≤ 140737488351232) :
    Calls Tryd.prog 48 #[.string s, .string t] w fun e w' => e = .returned (.bool (t.data.toList.isSuffixOf s.data.toList)) ∧ Drew w w' := by
  have HV := Lib.hid (suffix_take t.data.toList s.data.toList)
  by_cases h : t.size ≤ s.size
  · obtain ⟨f, hf⟩ : ∃ f, s.extract (s.size - t.size) s.size = f := ⟨_, rfl⟩
    have E := eq_of_list f t
    have hfl : f.data.toList = s.data.toList.drop (s.size - t.size) := by rw [← hf, Lib.extract_to_end]
    have hv := HV.out
    rw [← Lib.size_eq, ← Lib.size_eq, decide_eq_true h, Bool.true_and, ← hfl, ← E] at hv
    have hn : ((s.size : Int) - (t.size : Int)).toNat = s.size - t.size := by omega
    have h0 : (0 : Int) ≤ (s.size : Int) - (t.size : Int) := by omega
    have h1 : (s.size : Int) - (t.size : Int) ≤ (s.size : Int) := by omega
    generalize t.data.toList.isSuffixOf s.data.toList = b at *
    have hv2 := hv.symm
    clear HV hfl E hv
    cases b
    all_goals
      go_enter Tryd.func48, Tryd.ntmps48
      go_wp2
      try (go_quiet (fail); go_wp2)
      go_ret
      exact ⟨rfl, by first | exact Drew.refl _ | exact ⟨_, rfl⟩⟩
  · have HF : Hid (t.data.toList.isSuffixOf s.data.toList = false) := by
      show _ = _
      rw [HV.out, ← Lib.size_eq, ← Lib.size_eq, decide_eq_false h, Bool.false_and]
    clear HV
    go_enter Tryd.func48, Tryd.ntmps48
    go_wp2
    try (go_quiet (fail); go_wp2)
    go_ret
    exact ⟨by rw [HF.out]; first | rfl | (simp; omega), by first | exact Drew.refl _ | exact ⟨_, rfl⟩⟩

set_option maxHeartbeats 1000000 in
theorem behind_calls (s : ByteArray) (w : World) (hs : s.size ≤ 140737488351232) :
    Calls Tryd.prog 14 #[.string s] w fun e w' => e = .returned (.bool (Pth.behind s.data.toList)) ∧ Drew w w' := by
  have HV : Hid (Pth.behind s.data.toList = (decide (11 ≤ s.size) && decide (s.data.toList.drop (s.size - 11) = [46, 118] ++ Pth.uns))) := by
    show _ = _
    unfold Pth.behind
    rw [suffix_take, Lib.size_eq]; rfl
  by_cases h : 11 ≤ s.size
  · obtain ⟨f, hf⟩ : ∃ f, s.extract (s.size - 11) s.size = f := ⟨_, rfl⟩
    have E : (f.toList == ([46, 118, 45, 117, 110, 115, 116, 97, 98, 108, 101] : List UInt8)) = Pth.behind s.data.toList := by
      rw [HV.out, decide_eq_true h, Bool.true_and, Bool.eq_iff_iff, beq_iff_eq, decide_eq_true_eq, Lib.toList_data, ← hf, Lib.extract_to_end]; rfl
    have hn : ((s.size : Int) - 11).toNat = s.size - 11 := by omega
    have h0 : (0 : Int) ≤ (s.size : Int) - 11 := by omega
    have h1 : (s.size : Int) - 11 ≤ (s.size : Int) := by omega
    have h11 : (11 : Int) ≤ (s.size : Int) := by omega
    generalize Pth.behind s.data.toList = b at *
    clear HV
    cases b
    all_goals
      go_enter Tryd.func14, Tryd.ntmps14
      go_wp2
      try (go_quiet (fail); go_wp2)
      go_ret
      exact ⟨rfl, by first | exact Drew.refl _ | exact ⟨_, rfl⟩⟩
  · have HF : Hid (Pth.behind s.data.toList = false) := by
      show _ = _
      rw [HV.out, decide_eq_false h, Bool.false_and]
    have h11 : ¬ (11 : Int) ≤ (s.size : Int) := by omega
    clear HV
    go_enter Tryd.func14, Tryd.ntmps14
    go_wp2
    try (go_quiet (fail); go_wp2)
    go_ret
    exact ⟨by rw [HF.out]; first | rfl | (simp; omega), by first | exact Drew.refl _ | exact ⟨_, rfl⟩⟩

theorem mid_list (s : ByteArray) (j : Nat) (a b : UInt8) (h : j + 2 ≤ s.size) : ((s.extract j (j + 2)).toList == ([a, b] : List UInt8)) = decide (Pth.two s.data.toList (j + 2) a b) := by
  have q1 : j < s.data.toList.length := by rw [← Lib.size_eq]; omega
  have q2 : j + 1 < s.data.toList.length := by rw [← Lib.size_eq]; omega
  rw [Lib.toList_data, Lib.extract_data, Bool.eq_iff_iff, beq_iff_eq, decide_eq_true_eq, two_iff, List.drop_eq_getElem_cons q1, List.drop_eq_getElem_cons q2, List.getElem?_eq_getElem q1, List.getElem?_eq_getElem q2,
    show j + 2 - j = 2 by omega]
  simp

set_option maxRecDepth 100000 in
set_option maxHeartbeats 8000000 in
theorem spSplit_calls (s : ByteArray) (w : World) (hs : s.size ≤ 140737488351232) :
    Calls Tryd.prog 28 #[.string s] w fun e w' => e = .returned (splitVal (Pth.splitS s.data.toList)) ∧ Drew w w' := by
  obtain ⟨b, hb⟩ : ∃ b, Pth.gop.isPrefixOf s.data.toList = b := ⟨_, rfl⟩
  have CP : Hid (∀ w, Calls Tryd.prog 47 #[.string s, .string ⟨#[103, 111, 112, 107, 103, 46, 105, 110, 47]⟩] w fun e w' => e = .returned (.bool b) ∧ Drew w w') := fun w =>
    (Begins_calls s ⟨#[103, 111, 112, 107, 103, 46, 105, 110, 47]⟩ w hs).mono fun e w' ⟨p, q⟩ => ⟨by rw [p]; exact ret_bool hb, q⟩
  unfold Pth.splitS
  rw [hb]
  cases b with
  | true =>
    rw [if_pos rfl]
    obtain ⟨b, hb2⟩ : ∃ b, Pth.uns.isSuffixOf s.data.toList = b := ⟨_, rfl⟩
    have CS : Hid (∀ w, Calls Tryd.prog 48 #[.string s, .string ⟨#[45, 117, 110, 115, 116, 97, 98, 108, 101]⟩] w fun e w' => e = .returned (.bool b) ∧ Drew w w') := fun w =>
      (ends_calls s ⟨#[45, 117, 110, 115, 116, 97, 98, 108, 101]⟩ w hs).mono fun e w' ⟨p, q⟩ => ⟨by rw [p]; exact ret_bool hb2, q⟩
    obtain ⟨E, hE⟩ : ∃ E, Pth.endOf s.data.toList = E := ⟨_, rfl⟩
    have hE2 : Hid ((b = true → 9 ≤ s.size ∧ E = s.size - 9) ∧ (b = false → E = s.size)) := by
      show _ ∧ _
      unfold Pth.endOf at hE
      rw [hb2, ← Lib.size_eq] at hE
      constructor
      · intro h; subst h
        rw [if_pos rfl] at hE
        have := (Pth.suffix_drop.1 hb2).1
        rw [← Lib.size_eq] at this
        exact ⟨this, hE.symm⟩
      · intro h; subst h
        rw [if_neg (by simp)] at hE; exact hE.symm
    rw [hE]
    obtain ⟨R, hR⟩ : ∃ R, Pth.bk Ver.dig s.data.toList E = R := ⟨_, rfl⟩
    rw [hR]
    have HB0 : Hid (R = Pth.bk Ver.dig s.data.toList E) := hR.symm
    have hEs : E ≤ s.size := by
      cases b with
      | true => have := hE2.out.1 rfl; omega
      | false => have := hE2.out.2 rfl; omega
    have hRE : R ≤ E := by rw [← hR]; exact Pth.bk_le _ _ _
    have HST : Hid ((b = true → (s.size : Int) - 9 = (E : Int)) ∧ (b = false → (s.size : Int) = (E : Int))) := ⟨fun h => by have := hE2.out.1 h; omega, fun h => by have := hE2.out.2 h; omega⟩
    have HP9 : Hid (b = true → 9 ≤ s.size) := fun h => (hE2.out.1 h).1
    clear hE2 hR hE hb2 hb
    go_enter Tryd.func28, Tryd.ntmps28
    go_wp2_with fail
    refine (CP.out _).mono ?_
    rintro e w1 ⟨rfl, hd1⟩
    go_wp2_with fail
    refine (CS.out _).mono ?_
    rintro e w2 ⟨rfl, hd2⟩
    have HD12 := Lib.hid (hd1.trans hd2)
    clear hd1 hd2 CP CS
    cases b
    all_goals
      first
        | have hp9 : 9 ≤ s.size := HP9.out rfl
        | have hp9 : 0 ≤ s.size := Nat.zero_le _
      first
        | have HS0 : Hid ((s.size : Int) - 9 = (E : Int)) := HST.out.1 rfl
        | have HS0 : Hid ((s.size : Int) = (E : Int)) := HST.out.2 rfl
      clear HST
      go_wp2
      first
        | (have hst : (s.size : Int) - 9 = (E : Int) := HS0.out; clear HS0; generalize (s.size : Int) - 9 = zE at hst ⊢)
        | (have hst : (s.size : Int) = (E : Int) := HS0.out; clear HS0; generalize (s.size : Int) = zE at hst ⊢)
      have HZE := Lib.hid hst
      clear hst
      go_loopg [5] (s.size + 1) (fun g v4 wr => ∃ (k : Nat) (z : Int), v4 = .int .i64 z ∧ z = k ∧ k < g ∧ k ≤ E ∧ w2 = wr ∧ Hid (R = Pth.bk Ver.dig s.data.toList k))
      case atStart => exact ⟨E, zE, rfl, HZE.out, by omega, Nat.le_refl _, rfl, HB0⟩
      case round =>
        clear HB0 HP9
        obtain ⟨k, z, rfl, hz, hg, hkE, rfl, HB⟩ := hrel
        have hk : k ≤ s.size := by omega
        have hzE := HZE.out
        have hzE2 : z ≤ zE := by omega
        have hzE3 : zE ≤ (s.size : Int) := by omega
        clear hzE
        cases k with
        | zero =>
          have hz0 : ¬ 0 < z := by omega
          have hz1 : z < 2 := by omega
          obtain rfl : R = 0 := HB.out
          have HV : Hid (splitVal (Pth.gopS s.data.toList E 0) = .tuple #[.string s, .string ⟨#[]⟩, .bool false]) := splitVal_bad (by
            unfold Pth.gopS; rw [if_pos (.inr (.inl (not_two (by omega))))])
          have eways : (z == zE) = true ∨ (z == zE) = false := by cases (z == zE) <;> simp
          clear HB hz hg hk
          rcases eways with e0 | e0
          all_goals
            go_wp2
            go_ret3
            exact ⟨by rw [HV.out]; rfl, HD12.out⟩
        | succ k =>
          have hlt : k < s.size := by omega
          have hz0 : 0 < z := by omega
          have hz1 : 0 ≤ z - 1 := by omega
          have hz2 : z - 1 < (s.size : Int) := by omega
          have hn1 : (z - 1).toNat = k := by omega
          obtain ⟨d, hd⟩ : ∃ d : UInt8, s[k]'hlt = d := ⟨_, rfl⟩
          have HD := Lib.hid (byte_at' s k hlt hd)
          by_cases hdig : 48 ≤ d.toNat ∧ d.toNat ≤ 57
          · have HN : Hid (R = Pth.bk Ver.dig s.data.toList k) := HB.out.trans (Pth.bk_yes HD.out (by unfold Ver.dig; exact decide_eq_true hdig))
            have HZ : Hid (z - 1 = (k : Int)) := by show _ = _; omega
            obtain ⟨d1, d2⟩ := hdig
            clear HB hz HD
            go_wp2
            go_roundg (gk - 1)
            case measure => omega
            case rel => exact ⟨k, z - 1, rfl, HZ.out, by omega, by omega, rfl, HN⟩
          obtain rfl : R = k + 1 := HB.out.trans (Pth.bk_no HD.out (by unfold Ver.dig; exact decide_eq_false hdig))
          clear HB
          have dways : d.toNat < 48 ∨ 57 < d.toNat := by omega
          clear hdig
          by_cases hkE : k + 1 = E
          · have e0 : (z == zE) = true := beq_iff_eq.2 (by have := HZE.out; omega)
            have HV : Hid (splitVal (Pth.gopS s.data.toList E (k + 1)) = .tuple #[.string s, .string ⟨#[]⟩, .bool false]) := splitVal_bad (by
              unfold Pth.gopS; rw [if_pos (.inl hkE)])
            clear hz hg hk HD hkE
            rcases dways with hdd | hdd
            all_goals
              go_wp2
              go_ret3
              exact ⟨by rw [HV.out]; rfl, HD12.out⟩
          have e0 : (z == zE) = false := beq_eq_false_iff_ne.2 (by have := HZE.out; omega)
          by_cases hk0 : k = 0
          · have hz3 : z < 2 := by omega
            have HV : Hid (splitVal (Pth.gopS s.data.toList E (k + 1)) = .tuple #[.string s, .string ⟨#[]⟩, .bool false]) := splitVal_bad (by
              unfold Pth.gopS; rw [if_pos (.inr (.inl (not_two (by omega))))])
            clear hz hg hk HD hk0 hkE
            rcases dways with hdd | hdd
            all_goals
              go_wp2
              go_ret3
              exact ⟨by rw [HV.out]; rfl, HD12.out⟩
          have hz3 : ¬ z < 2 := by omega
          obtain ⟨j, rfl⟩ : ∃ j, k = j + 1 := ⟨k - 1, by omega⟩
          have hz4 : 0 ≤ z - 2 := by omega
          have hz5 : z - 2 ≤ z := by omega
          have hz6 : z ≤ (s.size : Int) := by omega
          have hn2 : (z - 2).toNat = j := by omega
          have hn0 : z.toNat = j + 2 := by omega
          have hlt3 : j + 2 < s.size := by omega
          have hz7 : z < (s.size : Int) := by omega
          have hz8 : 0 ≤ z := by omega
          have ML := mid_list s j 46 118 (by omega)
          obtain ⟨tw, htw⟩ : ∃ tw, s.extract j (j + 2) = tw := ⟨_, rfl⟩
          rw [htw] at ML
          by_cases htwo : Pth.two s.data.toList (j + 2) 46 118
          case neg =>
            rw [decide_eq_false htwo] at ML
            have ML' : (tw.toList != ([46, 118] : List UInt8)) = true := by rw [bne, ML]; rfl
            have HV : Hid (splitVal (Pth.gopS s.data.toList E (j + 1 + 1)) = .tuple #[.string s, .string ⟨#[]⟩, .bool false]) := splitVal_bad (by
              unfold Pth.gopS; rw [if_pos (.inr (.inl htwo))])
            clear hz hg hk HD hk0 hkE htwo
            rcases dways with hdd | hdd
            all_goals
              go_wp2
              go_ret3
              exact ⟨by rw [HV.out]; rfl, HD12.out⟩
          rw [decide_eq_true htwo] at ML
          have ML' : (tw.toList != ([46, 118] : List UInt8)) = false := by rw [bne, ML]; rfl
          have hd118 : d = 118 := by
            have := (two_iff.1 htwo).2
            rw [HD.out] at this; exact Option.some.inj this
          subst hd118
          clear dways
          obtain ⟨x, hx⟩ : ∃ x : UInt8, s[j + 2]'hlt3 = x := ⟨_, rfl⟩
          have HX := Lib.hid (byte_at' s (j + 2) hlt3 hx)
          have HT := Lib.hid htwo
          clear htwo
          by_cases hx48 : x = 48
          case neg =>
            have e4 : ((x.toNat : Int) == 48) = false := ne_nat hx48
            have HV : Hid (splitVal (Pth.gopS s.data.toList E (j + 1 + 1)) = .tuple #[.string (s.extract 0 j), .string (s.extract j s.size), .bool true]) := splitVal_good (by
              have hx' : s.data.toList[j + 1 + 1]? ≠ some 48 := fun h => hx48 (by have h : s.data.toList[j + 2]? = some 48 := h; rw [HX.out] at h; exact Option.some.inj h)
              unfold Pth.gopS
              rw [if_neg (by rintro (h | h | h) <;> first | exact hkE h | exact h HT.out | exact hx' h.1), if_neg (fun h => hx' h.1)]; rfl)
            clear hz hg hk HD hk0 hkE HX hx48 HT
            go_wp2
            try (go_quiet (fail); go_wp2)
            go_ret3
            exact ⟨by rw [HV.out]; rfl, by first | exact HD12.out | exact HD12.out.drewN _⟩
          subst hx48
          by_cases h3 : j + 3 < E
          · have hz9 : z + 1 < zE := by have := HZE.out; omega
            have HV : Hid (splitVal (Pth.gopS s.data.toList E (j + 1 + 1)) = .tuple #[.string s, .string ⟨#[]⟩, .bool false]) := splitVal_bad (by
              unfold Pth.gopS; rw [if_pos (.inr (.inr ⟨HX.out, h3⟩))])
            clear hz hg hk HD hk0 hkE HX HT h3
            go_wp2
            go_ret3
            exact ⟨by rw [HV.out]; rfl, by first | exact HD12.out | exact HD12.out.drewN _⟩
          have hz9 : ¬ z + 1 < zE := by have := HZE.out; omega
          by_cases h4 : E < s.size
          · have hz10 : zE < (s.size : Int) := by have := HZE.out; omega
            have HV : Hid (splitVal (Pth.gopS s.data.toList E (j + 1 + 1)) = .tuple #[.string s, .string ⟨#[]⟩, .bool false]) := splitVal_bad (by
              unfold Pth.gopS; rw [if_neg (by rintro (h | h | h) <;> first | exact hkE h | exact h HT.out | exact h3 h.2), if_pos ⟨HX.out, by rw [← Lib.size_eq]; exact h4⟩])
            clear hz hg hk HD hk0 hkE HX HT h3 h4
            go_wp2
            go_ret3
            exact ⟨by rw [HV.out]; rfl, by first | exact HD12.out | exact HD12.out.drewN _⟩
          have hz10 : ¬ zE < (s.size : Int) := by have := HZE.out; omega
          have HV : Hid (splitVal (Pth.gopS s.data.toList E (j + 1 + 1)) = .tuple #[.string (s.extract 0 j), .string (s.extract j s.size), .bool true]) := splitVal_good (by
            unfold Pth.gopS
            rw [if_neg (by rintro (h | h | h) <;> first | exact hkE h | exact h HT.out | exact h3 h.2), if_neg (fun h => h4 (by rw [Lib.size_eq]; exact h.2))]; rfl)
          clear hz hg hk HD hk0 hkE HX HT h3 h4
          go_wp2
          try (go_quiet (fail); go_wp2)
          go_ret3
          exact ⟨by rw [HV.out]; rfl, by first | exact HD12.out | exact HD12.out.drewN _⟩
  | false =>
    rw [if_neg (by simp)]
    obtain ⟨R, hR⟩ : ∃ R, Pth.bk Pth.dd s.data.toList s.data.toList.length = R := ⟨_, rfl⟩
    rw [hR]
    have HB0 : Hid (R = Pth.bk Pth.dd s.data.toList s.size) := by show _ = _; rw [Lib.size_eq]; exact hR.symm
    clear hR hb
    go_enter Tryd.func28, Tryd.ntmps28
    go_wp2_with fail
    refine (CP.out _).mono ?_
    rintro e w1 ⟨rfl, hd1⟩
    have HD1 := Lib.hid hd1
    clear hd1 CP
    go_wp2
    go_loopg [7, 8] (s.size + 1) (fun g v6 v7 wr => ∃ (k : Nat) (z : Int) (t : Bool), v6 = .int .i64 z ∧ z = k ∧ v7 = .bool t ∧ k < g ∧ k ≤ s.size ∧ w1 = wr ∧ Hid (R = Pth.bk Pth.dd s.data.toList k) ∧ Hid (t = (s.data.toList.drop k).contains 46))
    case atStart => exact ⟨s.size, _, false, rfl, rfl, rfl, by omega, by omega, rfl, HB0, by show _ = _; rw [List.drop_eq_nil_of_le (by rw [← Lib.size_eq]; omega)]; rfl⟩
    case round =>
      clear HB0
      obtain ⟨k, z, t, rfl, hz, rfl, hg, hk, rfl, HB, HDOT⟩ := hrel
      cases k with
      | zero =>
        have hz0 : ¬ 0 < z := by omega
        have hz1 : z < 2 := by omega
        obtain rfl : R = 0 := HB.out
        have HV := Lib.hid (splitVal_bad (plainV_no (l := s.data.toList) (k := 0) (.inr (not_two (by omega)))))
        clear HB hz hg hk HDOT
        go_wp2
        go_ret3
        exact ⟨by rw [HV.out]; rfl, HD1.out⟩
      | succ k =>
        have hlt : k < s.size := by omega
        have hz0 : 0 < z := by omega
        have hz1 : 0 ≤ z - 1 := by omega
        have hz2 : z - 1 < (s.size : Int) := by omega
        have hn1 : (z - 1).toNat = k := by omega
        obtain ⟨d, hd⟩ : ∃ d : UInt8, s[k]'hlt = d := ⟨_, rfl⟩
        have HD := Lib.hid (byte_at' s k hlt hd)
        have HDR : Hid (s.data.toList.drop k = d :: s.data.toList.drop (k + 1)) := by
          show _ = _
          obtain ⟨q1, q2⟩ := List.getElem?_eq_some_iff.1 HD.out
          rw [List.drop_eq_getElem_cons q1, q2]
        by_cases hdot : d = 46
        · subst hdot
          have HN : Hid (R = Pth.bk Pth.dd s.data.toList k) := HB.out.trans (Pth.bk_yes HD.out (by decide))
          have HT : Hid (true = (s.data.toList.drop k).contains 46) := by show _ = _; rw [HDR.out, List.contains_cons]; rfl
          have HZ : Hid (z - 1 = (k : Int)) := by show _ = _; omega
          clear HB hz HD HDOT HDR
          cases t
          all_goals
            go_wp2
            go_roundg (gk - 1)
            case measure => omega
            case rel => exact ⟨k, z - 1, true, rfl, HZ.out, rfl, by omega, by omega, rfl, HN, HT⟩
        have e46 : ((d.toNat : Int) == 46) = false := ne_nat hdot
        by_cases hdig : 48 ≤ d.toNat ∧ d.toNat ≤ 57
        · have HN : Hid (R = Pth.bk Pth.dd s.data.toList k) := HB.out.trans (Pth.bk_yes HD.out (by unfold Pth.dd Ver.dig; rw [decide_eq_true hdig]; rfl))
          have HT : Hid (t = (s.data.toList.drop k).contains 46) := by
            show _ = _
            rw [HDR.out, List.contains_cons, beq_eq_false_iff_ne.2 (fun h => hdot h.symm), Bool.false_or]; exact HDOT.out
          have HZ : Hid (z - 1 = (k : Int)) := by show _ = _; omega
          obtain ⟨d1, d2⟩ := hdig
          clear HB hz HD HDOT HDR hdot
          cases t
          all_goals
            go_wp2
            go_roundg (gk - 1)
            case measure => omega
            case rel => exact ⟨k, z - 1, _, rfl, HZ.out, rfl, by omega, by omega, rfl, HN, HT⟩
        obtain rfl : R = k + 1 := HB.out.trans (Pth.bk_no HD.out (by unfold Pth.dd Ver.dig; rw [decide_eq_false hdig, beq_eq_false_iff_ne.2 hdot]; rfl))
        clear HB HDR hdot
        have dways : d.toNat < 48 ∨ 57 < d.toNat := by omega
        clear hdig
        by_cases hk0 : k = 0
        · have hz3 : z < 2 := by omega
          have HV := Lib.hid (splitVal_bad (s := s) (plainV_no (l := s.data.toList) (k := k + 1) (.inr (not_two (by omega)))))
          clear hz hg hk HD hk0 HDOT
          rcases dways with hdd | hdd
          all_goals
            go_wp2
            go_ret3
            exact ⟨by rw [HV.out]; rfl, HD1.out⟩
        have hz3 : ¬ z < 2 := by omega
        by_cases hend : k + 1 = s.size
        · have e2 : (z == (s.size : Int)) = true := beq_iff_eq.2 (by omega)
          have HV := Lib.hid (splitVal_bad (s := s) (plainV_no (l := s.data.toList) (k := k + 1) (.inl (by rw [← Lib.size_eq]; exact hend))))
          clear hz hg hk HD hk0 HDOT hend
          rcases dways with hdd | hdd
          all_goals
            go_wp2
            go_ret3
            exact ⟨by rw [HV.out]; rfl, HD1.out⟩
        have e2 : (z == (s.size : Int)) = false := beq_eq_false_iff_ne.2 (by omega)
        obtain ⟨j, rfl⟩ : ∃ j, k = j + 1 := ⟨k - 1, by omega⟩
        have hz4 : 0 ≤ z - 2 := by omega
        have hz5 : z - 2 ≤ z := by omega
        have hz6 : z ≤ (s.size : Int) := by omega
        have hn2 : (z - 2).toNat = j := by omega
        have hn0 : z.toNat = j + 2 := by omega
        have hlt3 : j + 2 < s.size := by omega
        have hz7 : z < (s.size : Int) := by omega
        have hz8 : 0 ≤ z := by omega
        have ML := mid_list s j 47 118 (by omega)
        obtain ⟨tw, htw⟩ : ∃ tw, s.extract j (j + 2) = tw := ⟨_, rfl⟩
        rw [htw] at ML
        by_cases htwo : Pth.two s.data.toList (j + 2) 47 118
        case neg =>
          rw [decide_eq_false htwo] at ML
          have ML' : (tw.toList != ([47, 118] : List UInt8)) = true := by rw [bne, ML]; rfl
          have HV := Lib.hid (splitVal_bad (s := s) (plainV_no (l := s.data.toList) (k := j + 1 + 1) (.inr htwo)))
          clear hz hg hk HD hk0 htwo hend HDOT
          rcases dways with hdd | hdd
          all_goals
            go_wp2
            go_ret3
            exact ⟨by rw [HV.out]; rfl, HD1.out⟩
        rw [decide_eq_true htwo] at ML
        have ML' : (tw.toList != ([47, 118] : List UInt8)) = false := by rw [bne, ML]; rfl
        have hd118 : d = 118 := by
          have := (two_iff.1 htwo).2
          rw [HD.out] at this; exact Option.some.inj this
        subst hd118
        clear dways e46
        have HT : Hid (¬ (j + 1 + 1 = s.data.toList.length ∨ ¬ Pth.two s.data.toList (j + 1 + 1) 47 118)) := by
          show ¬ _
          rintro (h | h)
          · rw [← Lib.size_eq] at h; exact hend h
          · exact h htwo
        obtain ⟨x, hx⟩ : ∃ x : UInt8, s[j + 2]'hlt3 = x := ⟨_, rfl⟩
        have HX := Lib.hid (byte_at' s (j + 2) hlt3 hx)
        obtain ⟨pk, hpk⟩ : ∃ pk, s.extract (j + 2) s.size = pk := ⟨_, rfl⟩
        have HPK : Hid (pk.toList = s.data.toList.drop (j + 2)) := by show _ = _; rw [Lib.toList_data, ← hpk, Lib.extract_to_end]
        have fin_bad : (t = true ∨ x = 48 ∨ s.data.toList.drop (j + 2) = [49]) → Hid (splitVal (Pth.plainV s.data.toList (j + 1 + 1)) = .tuple #[.string s, .string ⟨#[]⟩, .bool false]) := fun h => splitVal_bad (by
          unfold Pth.plainV
          rw [if_neg HT.out, if_pos]
          rcases h with h | h | h
          · exact .inl (by rw [← h]; exact HDOT.out.symm)
          · exact .inr (.inl (by show s.data.toList[j + 2]? = some 48; rw [HX.out, h]))
          · exact .inr (.inr h))
        have fin_good : ¬ (t = true ∨ x = 48 ∨ s.data.toList.drop (j + 2) = [49]) → Hid (splitVal (Pth.plainV s.data.toList (j + 1 + 1)) = .tuple #[.string (s.extract 0 j), .string (s.extract j s.size), .bool true]) := fun h =>
          splitVal_good (s := s) (x := Pth.plainV s.data.toList (j + 1 + 1)) (j := j) (by
            unfold Pth.plainV
            rw [if_neg HT.out, if_neg]
            · rfl
            · rintro (h' | h' | h')
              · exact h (.inl (by rw [HDOT.out]; exact h'))
              · have h' : s.data.toList[j + 2]? = some 48 := h'
                rw [HX.out] at h'; exact h (.inr (.inl (Option.some.inj h')))
              · exact h (.inr (.inr h')))
        by_cases ht : t = true
        · have HV := fin_bad (.inl ht)
          subst ht
          clear hz hg hk HD hk0 HT hend HX HDOT HPK fin_bad fin_good htwo
          go_wp2
          go_ret3
          exact ⟨by rw [HV.out]; rfl, by first | exact HD1.out | exact HD1.out.drewN _⟩
        obtain rfl : t = false := by simpa using ht
        by_cases hx48 : x = 48
        · have HV := fin_bad (.inr (.inl hx48))
          have e4 : ((x.toNat : Int) == 48) = true := by rw [hx48]; rfl
          clear hz hg hk HD hk0 HT hend HX HDOT HPK fin_bad fin_good hx48 htwo ht
          go_wp2
          go_ret3
          exact ⟨by rw [HV.out]; rfl, by first | exact HD1.out | exact HD1.out.drewN _⟩
        have e4 : ((x.toNat : Int) == 48) = false := ne_nat hx48
        by_cases h49 : s.data.toList.drop (j + 2) = [49]
        · have HV := fin_bad (.inr (.inr h49))
          have e5 : (pk.toList == ([49] : List UInt8)) = true := by rw [HPK.out, h49]; rfl
          clear hz hg hk HD hk0 HT hend HX HDOT HPK fin_bad fin_good hx48 h49 ht htwo
          go_wp2
          go_ret3
          exact ⟨by rw [HV.out]; rfl, by first | exact HD1.out | exact HD1.out.drewN _⟩
        · have HV := fin_good (by rintro (h | h | h) <;> first | exact ht h | exact hx48 h | exact h49 h)
          have e5 : (pk.toList == ([49] : List UInt8)) = false := by
            rw [HPK.out, beq_eq_false_iff_ne]; exact h49
          clear hz hg hk HD hk0 HT hend HX HDOT HPK fin_bad fin_good hx48 h49 ht htwo
          go_wp2
          try (go_quiet (fail); go_wp2)
          go_ret3
          exact ⟨by rw [HV.out]; rfl, by first | exact HD1.out | exact HD1.out.drewN _⟩
end Go.Proofs.YtndimgajkjkgfaaDoor
