/- The walk of the reference's Major. -/
import Derived.Test.YtndimgajkjkgfaaDoorMj
import Derived.Test.YtndimgajkjkgfaaDoorSpG
import Derived.Test.YtndimgajkjkgfaaDoorSpF
import Derived.Test.YtndimgajkjkgfaaDoorSvI
namespace Go.Proofs.YtndimgajkjkgfaaDoor
open Go.RowKit Str
set_option linter.unusedVariables false

theorem Ver.parse_lens' {l : List UInt8} {v : Ver.V} (h : Ver.parse l = some v) (hl : l.length ≤ 1000) :
    v.major.length ≤ 1000 ∧ v.minor.length ≤ 1000 ∧ v.patch.length ≤ 1000 ∧ v.pre.length ≤ 1000 ∧ v.build.length ≤ 1000 := by
  rcases parse_shape h with ⟨_, h1, h2, h3, h4, h5⟩ | ⟨_, h1, h3, h4, h5⟩ | ⟨_, h1, _⟩ <;> (have h6 := congrArg List.length h1; simp at h6) <;> simp_all [Ver.zero] <;> omega
theorem okS_none {v m : List UInt8} (h : Ver.parse v = none) (h1 : ¬ (Mj.old v = true ∧ m = [46, 118, 49])) : Mj.okS v m = false := by
  unfold Mj.okS; rw [if_neg h1, h]; split <;> rfl
theorem okS_some {v m : List UInt8} {p : Ver.V} (h : Ver.parse v = some p) (h1 : ¬ (Mj.old v = true ∧ m = [46, 118, 49])) :
    Mj.okS v m = if m = [] then (p.major == [48] || (p.major == [49] || p.build == Mj.inc)) else (m.tail == 118 :: p.major) := by
  unfold Mj.okS; rw [if_neg h1, h]; rfl

set_option maxRecDepth 100000 in
set_option maxHeartbeats 8000000 in
theorem spMajor_calls (s t : ByteArray) (w : World) (hs : s.size ≤ 1000) (ht : t.size ≤ 1000) :
    Calls Tryd.prog 29 #[.string s, .string t] w fun e w' => e = .returned (.bool (Mj.okS s.data.toList (Mj.strip t.data.toList))) ∧ Gr w w' := by
  obtain ⟨T, hT⟩ : ∃ T : ByteArray, T = B (Mj.strip t.data.toList) := ⟨_, rfl⟩
  have hTl : T.data.toList = Mj.strip t.data.toList := by rw [hT, B_data]
  have hTs : T.size ≤ 1000 := by
    rw [Lib.size_eq, hTl]
    unfold Mj.strip
    split
    · rw [List.length_take, ← Lib.size_eq]; omega
    · rw [← Lib.size_eq]; exact ht
  rw [← hTl]
  obtain ⟨R, hR⟩ : ∃ R, Mj.okS s.data.toList T.data.toList = R := ⟨_, rfl⟩
  rw [hR]
  obtain ⟨bp, hbp⟩ : ∃ b, Lib.hasPrefix t.data.toList [46, 118] = b := ⟨_, rfl⟩
  obtain ⟨bs, hbs⟩ : ∃ b, Lib.hasSuffix t.data.toList Pth.uns = b := ⟨_, rfl⟩
  have C1 : Hid (∀ w, Calls Tryd.prog 47 #[.string t, .string ⟨#[46, 118]⟩] w fun e w' => e = .returned (.bool bp) ∧ Drew w w') := fun w =>
    (Begins_calls t ⟨#[46, 118]⟩ w (by omega)).mono fun e w' ⟨p, q⟩ => ⟨by rw [p]; exact ret_bool hbp, q⟩
  have C2 : Hid (∀ w, Calls Tryd.prog 48 #[.string t, .string ⟨#[45, 117, 110, 115, 116, 97, 98, 108, 101]⟩] w fun e w' => e = .returned (.bool bs) ∧ Drew w w') := fun w =>
    (ends_calls t ⟨#[45, 117, 110, 115, 116, 97, 98, 108, 101]⟩ w (by omega)).mono fun e w' ⟨p, q⟩ => ⟨by rw [p]; exact ret_bool hbs, q⟩
  obtain ⟨bb, hbb⟩ : ∃ bb, (bp && bs) = bb := ⟨_, rfl⟩
  have C3 : Hid ((bb = true → 9 ≤ t.size ∧ t.extract 0 (t.size - 9) = T) ∧ (bb = false → t = T)) := by
    show _ ∧ _
    rw [hT]
    unfold Mj.strip
    rw [hbp, hbs, hbb]
    constructor
    · intro h
      rw [h, Bool.and_eq_true] at hbb
      rw [hbb.2] at hbs
      have h9 := (Pth.suffix_drop.1 hbs).1
      rw [← Lib.size_eq] at h9
      refine ⟨h9, ?_⟩
      rw [h, if_pos rfl]
      exact of_data (by rw [ext_front, B_data, Lib.size_eq])
    · intro h
      rw [h, if_neg (by simp), B_of]
  have HBB := Lib.hid hbb
  obtain ⟨bo, hbo⟩ : ∃ b, Mj.old s.data.toList = b := ⟨_, rfl⟩
  have C4 : Hid (∀ w, Calls Tryd.prog 47 #[.string s, .string ⟨#[118, 48, 46, 48, 46, 48, 45]⟩] w fun e w' => e = .returned (.bool bo) ∧ Drew w w') := fun w =>
    (Begins_calls s ⟨#[118, 48, 46, 48, 46, 48, 45]⟩ w (by omega)).mono fun e w' ⟨p, q⟩ => ⟨by rw [p]; exact ret_bool hbo, q⟩
  have HO : Hid ((T.toList == ([46, 118, 49] : List UInt8)) = decide (T.data.toList = [46, 118, 49])) := by show _ = _; rw [lists_is, Bool.eq_iff_iff, beq_iff_eq, decide_eq_true_eq]
  have HRo : Hid (bo = true ∧ T.data.toList = [46, 118, 49] → R = true) := fun h => by
    rw [← hR]; unfold Mj.okS; rw [if_pos ⟨hbo.trans h.1, h.2⟩]
  have HRn : Hid (¬ (bo = true ∧ T.data.toList = [46, 118, 49]) → (Ver.parse s.data.toList = none → R = false) ∧ ∀ p, Ver.parse s.data.toList = some p → R = if T.data.toList = [] then (p.major == [48] || (p.major == [49] || p.build == Mj.inc)) else (T.data.toList.tail == 118 :: p.major)) := fun h =>
    ⟨fun h1 => by rw [← hR]; exact okS_none h1 (by rw [hbo]; exact h), fun p h1 => by rw [← hR]; exact okS_some h1 (by rw [hbo]; exact h)⟩
  have HTl : Hid ((T.toList == ([] : List UInt8)) = decide (T.data.toList = [])) := by show _ = _; rw [lists_is, Bool.eq_iff_iff, beq_iff_eq, decide_eq_true_eq]
  have HTE : Hid ((T.extract 1 T.size).toList = T.data.toList.tail) := by show _ = _; rw [Lib.toList_data, Lib.extract_to_end, List.drop_one]
  have hTne : T.data.toList ≠ [] → 0 < T.size := fun h => by rw [Lib.size_eq]; exact List.length_pos_iff.2 h
  have HTN := Lib.hid hTne
  clear hbb hR hT hTl hbp hbs hbo hTne
  go_enter Tryd.func29, Tryd.ntmps29
  go_upto_region 1 with fail
  go_cut [12] (fun s12 wx => s12 = .bool bb ∧ Drew w wx)
  case first =>
    cases bp with
    | false =>
      obtain rfl : bb = false := HBB.out.symm
      clear HBB C3
      go_wp2_with fail
      refine (C1.out _).mono ?_
      rintro e w1 ⟨rfl, d1⟩
      go_wp2
      go_meet
      exact ⟨rfl, d1⟩
    | true =>
      obtain rfl : bb = bs := HBB.out.symm
      clear HBB C3
      go_wp2_with fail
      refine (C1.out _).mono ?_
      rintro e w1 ⟨rfl, d1⟩
      go_wp2_with fail
      refine (C2.out _).mono ?_
      rintro e w2 ⟨rfl, d2⟩
      go_wp2
      go_meet
      exact ⟨rfl, d1.trans d2⟩
  case rest =>
    rename World => w1
    obtain ⟨rfl, d1⟩ := hcut
    have D1 := Lib.hid d1
    clear C1 C2 HBB d1
    go_upto_if 12 with fail
    go_cut [1] (fun s1 wx => s1 = .string T ∧ w1 = wx)
    case first =>
      cases bb with
      | false =>
        obtain rfl := C3.out.2 rfl
        clear C3
        go_wp2
        go_meet
        exact ⟨rfl, rfl⟩
      | true =>
        obtain ⟨h9, hex⟩ := C3.out.1 rfl
        clear C3
        have hn : ((t.size : Int) - 9).toNat = t.size - 9 := by omega
        have h0 : (0 : Int) ≤ (t.size : Int) - 9 := by omega
        go_wp2
        go_meet
        exact ⟨rfl, rfl⟩
    case rest =>
    obtain ⟨rfl, rfl⟩ := hcut
    clear C3
    by_cases h1 : bo = true ∧ T.data.toList = [46, 118, 49]
    · obtain rfl : R = true := HRo.out h1
      have e1 : (T.toList == ([46, 118, 49] : List UInt8)) = true := by rw [HO.out]; exact decide_eq_true h1.2
      obtain ⟨rfl, _⟩ := h1
      clear HRo HRn HO
      go_wp2_with fail
      refine (C4.out _).mono ?_
      rintro e w2 ⟨rfl, d2⟩
      go_wp2
      go_ret
      exact ⟨rfl, Gr.of_drew (D1.out.trans d2)⟩
    have HN := Lib.hid (HRn.out h1)
    have ways : bo = false ∨ (bo = true ∧ (T.toList == ([46, 118, 49] : List UInt8)) = false) := by
      cases bo with
      | false => exact .inl rfl
      | true => exact .inr ⟨rfl, by rw [HO.out]; exact decide_eq_false (by simpa using h1)⟩
    clear h1 HRo HRn HO
    go_upto_region 3 with fail
    go_cut [23] (fun s23 wx => s23 = .bool false ∧ Drew w1 wx)
    case first =>
      rcases ways with rfl | ⟨rfl, h2⟩
      all_goals
        go_wp2_with fail
        refine (C4.out _).mono ?_
        rintro e w2 ⟨rfl, d2⟩
        go_wp2
        go_meet
        exact ⟨rfl, d2⟩
    case rest =>
      rename World => w2
      obtain ⟨rfl, d2⟩ := hcut
      have G2 := Lib.hid (Gr.of_drew (D1.out.trans d2))
      clear ways C4 D1 d2
      cases hp : Ver.parse s.data.toList with
      | none =>
        obtain rfl : R = false := HN.out.1 hp
        have HP := Lib.hid hp
        clear hp HN
        by_cases hte : T.data.toList = []
        · have e1 : (T.toList == ([] : List UInt8)) = true := by rw [HTl.out]; exact decide_eq_true hte
          clear hte HTl
          go_wp2_with fail
          refine (spParse_bad _ (by omega) HP.out).mono ?_
          rintro e w3 ⟨rfl, g3⟩
          go_wp2
          go_ret
          exact ⟨rfl, (G2.out.trans g3).alloc _⟩
        · have e1 : (T.toList == ([] : List UInt8)) = false := by rw [HTl.out]; exact decide_eq_false hte
          clear hte HTl
          go_wp2_with fail
          refine (spParse_bad _ (by omega) HP.out).mono ?_
          rintro e w3 ⟨rfl, g3⟩
          go_wp2
          try (go_quiet (fail); go_wp2)
          go_ret
          exact ⟨rfl, by first | exact (G2.out.trans g3).alloc _ | exact ((G2.out.trans g3).alloc _).drewN _⟩
      | some p =>
        have HP := Lib.hid hp
        have HR := Lib.hid (HN.out.2 p hp)
        obtain ⟨l1, _, _, _, l5⟩ := Ver.parse_lens' hp (by rw [← Lib.size_eq]; exact hs)
        clear hp HN
        by_cases hte : T.data.toList = []
        · have e1 : (T.toList == ([] : List UInt8)) = true := by rw [HTl.out]; exact decide_eq_true hte
          have HR2 : Hid (R = (p.major == [48] || (p.major == [49] || p.build == Mj.inc))) := by show _ = _; rw [HR.out, if_pos hte]
          have f1 := list_is p.major [48]
          have f2 := list_is p.major [49]
          have f3 := list_is p.build [43, 105, 110, 99, 111, 109, 112, 97, 116, 105, 98, 108, 101]
          have HR3 : Hid (R = (p.major == [48] || (p.major == [49] || p.build == [43, 105, 110, 99, 111, 109, 112, 97, 116, 105, 98, 108, 101]))) := HR2.out
          clear hte HTl HR HR2
          generalize (p.major == [48]) = b1 at *
          generalize (p.major == [49]) = b2 at *
          generalize (p.build == [43, 105, 110, 99, 111, 109, 112, 97, 116, 105, 98, 108, 101]) = b3 at *
          obtain rfl : R = (b1 || (b2 || b3)) := HR3.out
          clear HR3
          cases b1 <;> cases b2 <;> cases b3
          all_goals
            go_wp2_with fail
            refine (spParse_good _ (by omega) HP.out).mono ?_
            rintro e w3 ⟨rfl, g3⟩
            go_wp2
            try (go_quiet (fail); go_wp2)
            go_ret
            exact ⟨rfl, by first | exact (G2.out.trans g3).alloc _ | exact ((G2.out.trans g3).alloc _).drewN _⟩
        · have e1 : (T.toList == ([] : List UInt8)) = false := by rw [HTl.out]; exact decide_eq_false hte
          have hp0 := HTN.out hte
          have hp1 : (1 : Int) ≤ (T.size : Int) := by omega
          obtain ⟨X, hX⟩ : ∃ X, T.extract 1 T.size = X := ⟨_, rfl⟩
          obtain ⟨a1, h1⟩ : ∃ a, a = B (118 :: p.major) := ⟨_, rfl⟩
          have padd : Op.stringOp .add (⟨#[118]⟩ : ByteArray) (B p.major) = pure (.string a1) :=
            str_add (by rw [h1]; exact B_append [118] _) (by rw [B_size]; have : (⟨#[118]⟩ : ByteArray).size = 1 := rfl; omega)
          have e2 : (X.toList == a1.toList) = R := by
            rw [HR.out, if_neg hte, ← hX, HTE.out, h1, B_list]
          clear hte HTl HR HTE h1
          cases R
          all_goals
            go_wp2_with fail
            refine (spParse_good _ (by omega) HP.out).mono ?_
            rintro e w3 ⟨rfl, g3⟩
            go_wp2
            try (go_quiet (fail); go_wp2)
            go_ret
            exact ⟨rfl, by first | exact (G2.out.trans g3).alloc _ | exact ((G2.out.trans g3).alloc _).drewN _⟩
end Go.Proofs.YtndimgajkjkgfaaDoor
