/- Walks of the reference's order of two versions: order, one, Pre. -/
import Derived.Test.YtppnjkfeefmohaaDoorSpC
namespace Go.Proofs.YtppnjkfeefmohaaDoor
open Go.RowKit Str Ver
set_option linter.unusedVariables false

set_option maxHeartbeats 1000000 in
theorem order_calls (s t : ByteArray) (w : World) (hs : s.size ≤ 140737488351232) (ht : t.size ≤ 140737488351232) :
    Calls Tryd.prog 16 #[.string s, .string t] w fun e w' => e = .returned (.int .i64 (Ver.figures s.data.toList t.data.toList)) ∧ w = w' := by
  have HF := Lib.hid (figures_tell s.data.toList t.data.toList)
  have HL : Hid (s.size = s.data.toList.length ∧ t.size = t.data.toList.length) := ⟨Lib.size_eq s, Lib.size_eq t⟩
  by_cases h2 : s.size < t.size
  · have hne : ((s.size : Int) == (t.size : Int)) = false := beq_eq_false_iff_ne.2 (by omega)
    have hne' : ((s.size : Int) != (t.size : Int)) = true := by rw [bne, hne]; rfl
    have HV : Hid (Ver.figures s.data.toList t.data.toList = -1) := by
      show _ = _; rw [HF.out, if_neg (fun e => by have := HL.out; rw [e] at this; omega), if_pos (by have := HL.out; omega)]
    clear HF HL
    go_enter Tryd.func16, Tryd.ntmps16
    go_wp2
    go_ret
    exact ⟨ret_int (by rw [HV.out]), rfl⟩
  by_cases h3 : t.size < s.size
  · have hne : ((s.size : Int) == (t.size : Int)) = false := beq_eq_false_iff_ne.2 (by omega)
    have hne' : ((s.size : Int) != (t.size : Int)) = true := by rw [bne, hne]; rfl
    have HV : Hid (Ver.figures s.data.toList t.data.toList = 1) := by
      show _ = _; rw [HF.out, if_neg (fun e => by have := HL.out; rw [e] at this; omega), if_neg (by have := HL.out; omega), if_pos (by have := HL.out; omega)]
    clear HF HL
    go_enter Tryd.func16, Tryd.ntmps16
    go_wp2
    go_ret
    exact ⟨ret_int (by rw [HV.out]), rfl⟩
  have hne : ((s.size : Int) == (t.size : Int)) = true := beq_iff_eq.2 (by omega)
  have hne' : ((s.size : Int) != (t.size : Int)) = false := by rw [bne, hne]; rfl
  by_cases e : s.data.toList = t.data.toList
  · have h1 : (s.toList == t.toList) = true := by rw [eq_list]; exact decide_eq_true e
    have hlt : Op.bytesLess s.toList t.toList = false := by
      cases h : Op.bytesLess s.toList t.toList with
      | false => rfl
      | true =>
        rw [bytesLess_bytes, Lib.toList_data, Lib.toList_data, e, good_bytes.self] at h
        cases h
    have HV : Hid (Ver.figures s.data.toList t.data.toList = 0) := by show _ = _; rw [HF.out, if_pos e]
    clear e HF HL
    go_enter Tryd.func16, Tryd.ntmps16
    go_wp2
    go_ret
    exact ⟨ret_int (by rw [HV.out]), rfl⟩
  have h1 : (s.toList == t.toList) = false := by rw [eq_list]; exact decide_eq_false e
  have HF2 : Hid (Ver.figures s.data.toList t.data.toList = if Op.bytesLess s.toList t.toList = true then -1 else 1) := by
    show _ = _; rw [HF.out, if_neg e, if_neg (by have := HL.out; omega), if_neg (by have := HL.out; omega), Lib.toList_data, Lib.toList_data]
  clear e HF HL
  cases h4 : Op.bytesLess s.toList t.toList with
  | true =>
    have HV : Hid (Ver.figures s.data.toList t.data.toList = -1) := by show _ = _; rw [HF2.out, h4]; rfl
    clear HF2
    go_enter Tryd.func16, Tryd.ntmps16
    go_wp2
    go_ret
    exact ⟨ret_int (by rw [HV.out]), rfl⟩
  | false =>
    have HV : Hid (Ver.figures s.data.toList t.data.toList = 1) := by show _ = _; rw [HF2.out, h4]; rfl
    clear HF2
    go_enter Tryd.func16, Tryd.ntmps16
    go_wp2
    go_ret
    exact ⟨ret_int (by rw [HV.out]), rfl⟩

theorem bytes_self_less (l : List UInt8) : Op.bytesLess l l = false := by
  cases h : Op.bytesLess l l with
  | false => rfl
  | true => rw [bytesLess_bytes, good_bytes.self] at h; cases h
theorem bytes_tell3 (l m : List UInt8) : Ver.bytes l m = if Op.bytesLess l m = true then -1 else if (Op.bytesLess l m || l == m) = true then 0 else 1 := by
  by_cases e : l = m
  · subst e; rw [bytes_self_less]; simp [good_bytes.self]
  · rw [bytes_tell l m e]
    cases h : Op.bytesLess l m with
    | true => rfl
    | false => simp [e]

set_option maxHeartbeats 1000000 in
theorem one_calls (s t : ByteArray) (w : World) (hs : s.size ≤ 140737488351232) (ht : t.size ≤ 140737488351232) :
    Calls Tryd.prog 30 #[.string s, .string t] w fun e w' => e = .returned (.int .i64 (Ver.one s.data.toList t.data.toList)) ∧ w = w' := by
  obtain ⟨R, hR⟩ : ∃ R, Ver.one s.data.toList t.data.toList = R := ⟨_, rfl⟩
  have HR := Lib.hid hR
  rw [hR]
  clear hR
  have HF := Lib.hid (bytes_tell3 s.toList t.toList)
  cases h1 : figs s.data.toList with
  | true =>
    have H1 := Lib.hid h1
    cases h2 : figs t.data.toList with
    | true =>
      have H2 := Lib.hid h2
      have HV : Hid (R = Ver.figures s.data.toList t.data.toList) := by show _ = _; rw [← HR.out]; unfold Ver.one; rw [h1, h2]; rfl
      clear h1 h2 HR HF
      go_enter Tryd.func30, Tryd.ntmps30
      go_wp2_with fail
      refine (figures_calls _ _ H1.out _ hs).mono ?_
      rintro e w' ⟨rfl, rfl⟩
      go_wp2_with fail
      refine (figures_calls _ _ H2.out _ ht).mono ?_
      rintro e w' ⟨rfl, rfl⟩
      go_wp2_with fail
      refine (order_calls s t _ hs ht).mono ?_
      rintro e w' ⟨rfl, rfl⟩
      go_wp2
      go_ret
      exact ⟨ret_int HV.out.symm, rfl⟩
    | false =>
      have H2 := Lib.hid h2
      have HV : Hid (R = -1) := by show _ = _; rw [← HR.out]; unfold Ver.one; rw [h1, h2]; rfl
      clear h1 h2 HR HF
      go_enter Tryd.func30, Tryd.ntmps30
      go_wp2_with fail
      refine (figures_calls _ _ H1.out _ hs).mono ?_
      rintro e w' ⟨rfl, rfl⟩
      go_wp2_with fail
      refine (figures_calls _ _ H2.out _ ht).mono ?_
      rintro e w' ⟨rfl, rfl⟩
      go_wp2
      go_ret
      exact ⟨ret_int HV.out.symm, rfl⟩
  | false =>
    have H1 := Lib.hid h1
    cases h2 : figs t.data.toList with
    | true =>
      have H2 := Lib.hid h2
      have HV : Hid (R = 1) := by show _ = _; rw [← HR.out]; unfold Ver.one; rw [h1, h2]; rfl
      clear h1 h2 HR HF
      go_enter Tryd.func30, Tryd.ntmps30
      go_wp2_with fail
      refine (figures_calls _ _ H1.out _ hs).mono ?_
      rintro e w' ⟨rfl, rfl⟩
      go_wp2_with fail
      refine (figures_calls _ _ H2.out _ ht).mono ?_
      rintro e w' ⟨rfl, rfl⟩
      go_wp2
      go_ret
      exact ⟨ret_int HV.out.symm, rfl⟩
    | false =>
      have H2 := Lib.hid h2
      have HV : Hid (R = if Op.bytesLess s.toList t.toList = true then -1 else if (Op.bytesLess s.toList t.toList || s.toList == t.toList) = true then 0 else 1) := by
        show _ = _; rw [← HF.out, ← HR.out, Lib.toList_data, Lib.toList_data]; unfold Ver.one; rw [h1, h2]; rfl
      clear h1 h2 HR HF
      obtain ⟨x, h5⟩ : ∃ x, Op.bytesLess s.toList t.toList = x := ⟨_, rfl⟩
      obtain ⟨y, h6⟩ : ∃ y, (s.toList == t.toList) = y := ⟨_, rfl⟩
      rw [h5, h6] at HV
      cases x <;> cases y
      all_goals
        go_enter Tryd.func30, Tryd.ntmps30
        go_wp2_with fail
        refine (figures_calls _ _ H1.out _ hs).mono ?_
        rintro e w' ⟨rfl, rfl⟩
        go_wp2_with fail
        refine (figures_calls _ _ H2.out _ ht).mono ?_
        rintro e w' ⟨rfl, rfl⟩
        go_wp2
        go_ret
        exact ⟨ret_int (by rw [HV.out]; rfl), rfl⟩
end Go.Proofs.YtppnjkfeefmohaaDoor
