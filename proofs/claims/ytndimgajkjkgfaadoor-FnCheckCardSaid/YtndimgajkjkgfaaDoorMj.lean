/- Whether a version goes with the version of a path: by the program's way (CheckPathMajor, MatchPathMajor) and in plain words; that the reference says the same. -/
import Derived.Test.YtndimgajkjkgfaaDoorMdD
import Derived.Test.YtndimgajkjkgfaaDoorSvG
import Derived.Test.YtndimgajkjkgfaaDoorPth
import Derived.Deep.DeepCutAuto
namespace Go.Proofs.YtndimgajkjkgfaaDoor
open Go.RowKit Str
set_option linter.unusedVariables false

namespace Mj
def inc : List UInt8 := [43, 105, 110, 99, 111, 109, 112, 97, 116, 105, 98, 108, 101]
/-- a path's version without -unstable behind .v -/
def strip (m : List UInt8) : List UInt8 := if Lib.hasPrefix m [46, 118] && Lib.hasSuffix m Pth.uns then m.take (m.length - 9) else m
def old (v : List UInt8) : Bool := Lib.hasPrefix v [118, 48, 46, 48, 46, 48, 45]
def majT (v : List UInt8) : List UInt8 := (Ver.parse v).elim [] fun p => 118 :: p.major
def buildT (v : List UInt8) : List UInt8 := (Ver.parse v).elim [] fun p => p.build
/-- what CheckPathMajor asks -/
def okI (v m : List UInt8) : Bool :=
  if old v = true ∧ m = [46, 118, 49] then true
  else if m = [] then majT v == [118, 48] || (majT v == [118, 49] || buildT v == inc) else majT v == m.tail
/-- what the reference's Major asks -/
def okS (v m : List UInt8) : Bool :=
  if old v = true ∧ m = [46, 118, 49] then true
  else if m = [] then (Ver.parse v).any fun p => p.major == [48] || (p.major == [49] || p.build == inc) else (Ver.parse v).any fun p => m.tail == 118 :: p.major

theorem beq_comm (a b : List UInt8) : (a == b) = (b == a) := by
  rw [Bool.eq_iff_iff, beq_iff_eq, beq_iff_eq]; exact eq_comm

theorem ok_same (v m : List UInt8) (h : m = [] ∨ m.tail ≠ []) : okI v m = okS v m := by
  unfold okI okS
  by_cases h1 : old v = true ∧ m = [46, 118, 49]
  · rw [if_pos h1, if_pos h1]
  rw [if_neg h1, if_neg h1]
  by_cases h2 : m = []
  · rw [if_pos h2, if_pos h2]
    unfold majT buildT
    cases Ver.parse v with
    | none => rfl
    | some p =>
      show (118 :: p.major == [118, 48] || (118 :: p.major == [118, 49] || p.build == inc)) = (p.major == [48] || (p.major == [49] || p.build == inc))
      have e : ∀ l : List UInt8, ∀ c : UInt8, (118 :: l == [118, c]) = (l == [c]) := fun l c => by rw [Bool.eq_iff_iff, beq_iff_eq, beq_iff_eq]; simp
      rw [e, e]
  · rw [if_neg h2, if_neg h2]
    have h3 : m.tail ≠ [] := h.resolve_left h2
    unfold majT
    cases Ver.parse v with
    | none => show (([] : List UInt8) == m.tail) = false; rw [beq_eq_false_iff_ne]; exact fun h => h3 h.symm
    | some p => exact beq_comm _ _
end Mj

theorem list_is (l m : List UInt8) : ((B l).toList == m) = (l == m) := by rw [B_list]
theorem lists_is (s : ByteArray) (m : List UInt8) : (s.toList == m) = (s.data.toList == m) := by rw [Lib.toList_data]

set_option maxRecDepth 100000 in
set_option maxHeartbeats 8000000 in
theorem CheckPathMajor_calls (s t : ByteArray) (w : World) (hs : s.size ≤ 140737488351232) (ht : t.size ≤ 140737488351232)
    (hgood : Mj.strip t.data.toList = [] ∨ (Mj.strip t.data.toList).head? = some 47 ∨ (Mj.strip t.data.toList).head? = some 46) :
    Calls Tryd.prog 64 #[.string s, .string t] w fun e w' => (∃ x, e = .returned x ∧ Err (Mj.okI s.data.toList (Mj.strip t.data.toList)) x) ∧ Gr w w' := by
  obtain ⟨R, hR⟩ : ∃ R, Mj.okI s.data.toList (Mj.strip t.data.toList) = R := ⟨_, rfl⟩
  rw [hR]
  obtain ⟨T, hT⟩ : ∃ T : ByteArray, T = B (Mj.strip t.data.toList) := ⟨_, rfl⟩
  have hTl : T.data.toList = Mj.strip t.data.toList := by rw [hT, B_data]
  have HT := Lib.hid hTl
  obtain ⟨bp, hbp⟩ : ∃ b, Lib.hasPrefix t.data.toList [46, 118] = b := ⟨_, rfl⟩
  obtain ⟨bs, hbs⟩ : ∃ b, Lib.hasSuffix t.data.toList Pth.uns = b := ⟨_, rfl⟩
  have C1 : Hid (∀ w, Calls Tryd.prog 66 #[.string t, .string ⟨#[46, 118]⟩] w fun e w' => e = .returned (.bool bp) ∧ w = w') := fun w =>
    (strings_HasPrefix t ⟨#[46, 118]⟩ w).mono fun e w' ⟨p, q⟩ => ⟨by rw [p]; exact ret_bool hbp, q.symm⟩
  have C2 : Hid (∀ w, Calls Tryd.prog 75 #[.string t, .string ⟨#[45, 117, 110, 115, 116, 97, 98, 108, 101]⟩] w fun e w' => e = .returned (.bool bs) ∧ w = w') := fun w =>
    (strings_HasSuffix t ⟨#[45, 117, 110, 115, 116, 97, 98, 108, 101]⟩ w (by omega)).mono fun e w' ⟨p, q⟩ => ⟨by rw [p]; exact ret_bool hbs, q.symm⟩
  have C3 : Hid ((bp = true → bs = true → ∀ w, Calls Tryd.prog 76 #[.string t, .string ⟨#[45, 117, 110, 115, 116, 97, 98, 108, 101]⟩] w fun e w' => e = .returned (.string T) ∧ w = w') ∧ (bp = false ∨ bs = false → t = T)) := by
    constructor
    · intro h1 h2 w
      refine (strings_TrimSuffix t ⟨#[45, 117, 110, 115, 116, 97, 98, 108, 101]⟩ w (by omega)).mono fun e w' ⟨p, q⟩ => ⟨?_, q.symm⟩
      rw [p, hT]
      unfold Mj.strip Lib.trimSuffix
      have e1 : Lib.hasSuffix t.data.toList (⟨#[45, 117, 110, 115, 116, 97, 98, 108, 101]⟩ : ByteArray).data.toList = true := hbs.trans h2
      rw [e1, if_pos rfl, hbp, hbs, h1, h2]; rfl
    · intro h
      rw [hT]
      unfold Mj.strip
      rw [hbp, hbs, if_neg (by rcases h with h | h <;> rw [h] <;> simp), B_of]
  obtain ⟨bo, hbo⟩ : ∃ b, Mj.old s.data.toList = b := ⟨_, rfl⟩
  have C4 : Hid (∀ w, Calls Tryd.prog 66 #[.string s, .string ⟨#[118, 48, 46, 48, 46, 48, 45]⟩] w fun e w' => e = .returned (.bool bo) ∧ w = w') := fun w =>
    (strings_HasPrefix s ⟨#[118, 48, 46, 48, 46, 48, 45]⟩ w).mono fun e w' ⟨p, q⟩ => ⟨by rw [p]; exact ret_bool hbo, q.symm⟩
  have CM : Hid (∀ w, Calls Tryd.prog 77 #[.string s] w fun e w' => e = .returned (.string (B (Mj.majT s.data.toList))) ∧ Gr w w') := fun w => (Major_calls s w hs).mono fun e w' ⟨p, q⟩ => ⟨by
    rw [p]; unfold Mj.majT; cases Ver.parse s.data.toList <;> rfl, q⟩
  have CB : Hid (∀ w, Calls Tryd.prog 78 #[.string s] w fun e w' => e = .returned (.string (B (Mj.buildT s.data.toList))) ∧ Gr w w') := fun w => (Build_calls s w hs).mono fun e w' ⟨p, q⟩ => ⟨by
    rw [p]; unfold Mj.buildT; cases Ver.parse s.data.toList <;> rfl, q⟩
  obtain ⟨M, hM⟩ : ∃ M : ByteArray, M = B (Mj.majT s.data.toList) := ⟨_, rfl⟩
  obtain ⟨U, hU⟩ : ∃ U : ByteArray, U = B (Mj.buildT s.data.toList) := ⟨_, rfl⟩
  rw [← hM] at CM
  rw [← hU] at CB
  have HR : Hid (R = if bo = true ∧ (T.toList == ([46, 118, 49] : List UInt8)) = true then true else if (T.toList == ([] : List UInt8)) = true then ((M.toList == ([118, 48] : List UInt8)) || ((M.toList == ([118, 49] : List UInt8)) || (U.toList == ([43, 105, 110, 99, 111, 109, 112, 97, 116, 105, 98, 108, 101] : List UInt8)))) else (M.toList == (T.extract 1 T.size).toList)) := by
    show _ = _
    have e1 : (T.extract 1 T.size).toList = (Mj.strip t.data.toList).tail := by rw [Lib.toList_data, Lib.extract_to_end, hTl, List.drop_one]
    rw [← hR, hM, hU, e1, B_list, B_list, hT, B_list, ← hbo]
    unfold Mj.okI
    simp only [beq_iff_eq]; rfl
  have hg2 : (T.toList == ([] : List UInt8)) = true ∨ ((T.toList == ([] : List UInt8)) = false ∧ 0 < T.size ∧ ((∃ h : 0 < T.size, T[0]'h = 47) ∨ (∃ h : 0 < T.size, T[0]'h = 46))) := by
    rw [lists_is, hTl]
    have key : ∀ c : UInt8, (Mj.strip t.data.toList).head? = some c → (((Mj.strip t.data.toList) == ([] : List UInt8)) = false ∧ 0 < T.size ∧ ∃ h : 0 < T.size, T[0]'h = c) := fun c hc => by
      have hne : Mj.strip t.data.toList ≠ [] := fun h => by rw [h] at hc; cases hc
      have hp : 0 < T.size := by rw [Lib.size_eq, hTl]; exact List.length_pos_iff.2 hne
      refine ⟨beq_eq_false_iff_ne.2 hne, hp, hp, ?_⟩
      have := head_eq hp
      rw [hTl, hc] at this
      exact (Option.some.inj this).symm
    rcases hgood with h | h | h
    · left; rw [h]; rfl
    · right; obtain ⟨a, b, c⟩ := key 47 h; exact ⟨a, b, .inl c⟩
    · right; obtain ⟨a, b, c⟩ := key 46 h; exact ⟨a, b, .inr c⟩
  clear hR hT hTl HT hbp hbs hbo hM hU hgood
  go_enter Tryd.func64, Tryd.ntmps64
  obtain ⟨bb, hbb⟩ : ∃ bb, (bp && bs) = bb := ⟨_, rfl⟩
  have C3' : Hid ((bb = true → ∀ w, Calls Tryd.prog 76 #[.string t, .string ⟨#[45, 117, 110, 115, 116, 97, 98, 108, 101]⟩] w fun e w' => e = .returned (.string T) ∧ w = w') ∧ (bb = false → t = T)) := by
    constructor
    · intro h; rw [h, Bool.and_eq_true] at hbb; exact C3.out.1 hbb.1 hbb.2
    · intro h; rw [h, Bool.and_eq_false_iff] at hbb; exact C3.out.2 hbb
  have HBB := Lib.hid hbb
  clear C3 hbb
  go_upto_region 1 with fail
  go_cut [11] (fun s11 wx => s11 = .bool bb ∧ w = wx)
  case first =>
    cases bp with
    | false =>
      obtain rfl : bb = false := HBB.out.symm
      clear HBB C3'
      go_wp2_with fail
      refine (C1.out _).mono ?_
      rintro e w' ⟨rfl, rfl⟩
      go_wp2
      go_meet
      exact ⟨rfl, rfl⟩
    | true =>
      obtain rfl : bb = bs := HBB.out.symm
      clear HBB C3'
      go_wp2_with fail
      refine (C1.out _).mono ?_
      rintro e w' ⟨rfl, rfl⟩
      go_wp2_with fail
      refine (C2.out _).mono ?_
      rintro e w' ⟨rfl, rfl⟩
      go_wp2
      go_meet
      exact ⟨rfl, rfl⟩
  case rest =>
    obtain ⟨rfl, rfl⟩ := hcut
    clear C1 C2 HBB
    go_upto_if 11 with fail
    go_cut [1] (fun s1 wx => s1 = .string T ∧ w = wx)
    case first =>
      cases bb with
      | false =>
        obtain rfl := C3'.out.2 rfl
        clear C3'
        go_wp2
        go_meet
        exact ⟨rfl, rfl⟩
      | true =>
        have C5 := Lib.hid (C3'.out.1 rfl)
        clear C3'
        go_wp2_with fail
        refine (C5.out _).mono ?_
        rintro e w' ⟨rfl, rfl⟩
        go_wp2
        go_meet
        exact ⟨rfl, rfl⟩
    case rest =>
    obtain ⟨rfl, rfl⟩ := hcut
    clear C3'
    by_cases h1 : bo = true ∧ (T.toList == ([46, 118, 49] : List UInt8)) = true
    · obtain rfl : R = true := by rw [HR.out, if_pos h1]
      obtain ⟨rfl, h1'⟩ := h1
      clear HR hg2
      go_wp2_with fail
      refine (C4.out _).mono ?_
      rintro e w' ⟨rfl, rfl⟩
      go_wp2
      go_ret
      exact ⟨⟨_, rfl, rfl⟩, Gr.refl _⟩
    have HR2 : Hid (R = if (T.toList == ([] : List UInt8)) = true then ((M.toList == ([118, 48] : List UInt8)) || ((M.toList == ([118, 49] : List UInt8)) || (U.toList == ([43, 105, 110, 99, 111, 109, 112, 97, 116, 105, 98, 108, 101] : List UInt8)))) else (M.toList == (T.extract 1 T.size).toList)) := by show _ = _; rw [HR.out, if_neg h1]
    have ways : bo = false ∨ (bo = true ∧ (T.toList == ([46, 118, 49] : List UInt8)) = false) := by
      cases bo with
      | false => exact .inl rfl
      | true => exact .inr ⟨rfl, by simpa using h1⟩
    clear HR h1
    go_upto_region 3 with fail
    go_cut [19] (fun s19 wx => s19 = .bool false ∧ w = wx)
    case first =>
      rcases ways with rfl | ⟨rfl, h2⟩
      all_goals
        go_wp2_with fail
        refine (C4.out _).mono ?_
        rintro e w' ⟨rfl, rfl⟩
        go_wp2
        go_meet
        exact ⟨rfl, rfl⟩
    case rest =>
      obtain ⟨rfl, rfl⟩ := hcut
      clear ways C4
      rcases hg2 with h0 | ⟨h0, hp, hc⟩
      · have HR3 : Hid (R = ((M.toList == ([118, 48] : List UInt8)) || ((M.toList == ([118, 49] : List UInt8)) || (U.toList == ([43, 105, 110, 99, 111, 109, 112, 97, 116, 105, 98, 108, 101] : List UInt8))))) := by show _ = _; rw [HR2.out, if_pos h0]
        clear HR2
        cases hm0 : (M.toList == ([118, 48] : List UInt8)) with
        | true =>
          obtain rfl : R = true := by rw [HR3.out, hm0]; rfl
          clear HR3
          go_wp2_with fail
          refine (CM.out _).mono ?_
          rintro e w1 ⟨rfl, g1⟩
          go_wp2
          go_ret
          exact ⟨⟨_, rfl, rfl⟩, g1⟩
        | false =>
          cases hm1 : (M.toList == ([118, 49] : List UInt8)) with
          | true =>
            obtain rfl : R = true := by rw [HR3.out, hm0, hm1]; rfl
            clear HR3
            go_wp2_with fail
            refine (CM.out _).mono ?_
            rintro e w1 ⟨rfl, g1⟩
            go_wp2
            go_ret
            exact ⟨⟨_, rfl, rfl⟩, g1⟩
          | false =>
            cases hu : (U.toList == ([43, 105, 110, 99, 111, 109, 112, 97, 116, 105, 98, 108, 101] : List UInt8)) with
            | true =>
              obtain rfl : R = true := by rw [HR3.out, hm0, hm1, hu]; rfl
              clear HR3
              go_wp2_with fail
              refine (CM.out _).mono ?_
              rintro e w1 ⟨rfl, g1⟩
              go_wp2_with fail
              refine (CB.out _).mono ?_
              rintro e w2 ⟨rfl, g2⟩
              go_wp2
              go_ret
              exact ⟨⟨_, rfl, rfl⟩, g1.trans g2⟩
            | false =>
              obtain rfl : R = false := by rw [HR3.out, hm0, hm1, hu]; rfl
              clear HR3
              go_wp2_with fail
              refine (CM.out _).mono ?_
              rintro e w1 ⟨rfl, g1⟩
              go_wp2_with fail
              refine (CB.out _).mono ?_
              rintro e w2 ⟨rfl, g2⟩
              go_wp2_with fail
              refine (errorsNew_calls _ _).mono ?_
              rintro e w3 ⟨⟨a, rfl⟩, g3⟩
              go_wp2
              go_ret
              exact ⟨⟨_, rfl, _, _, rfl⟩, (((g1.trans g2).trans g3).alloc _)⟩
      · have HR3 : Hid (R = (M.toList == (T.extract 1 T.size).toList)) := by show _ = _; rw [HR2.out, if_neg (by rw [h0]; simp)]
        clear HR2
        obtain ⟨E, hE⟩ : ∃ E, T.extract 1 T.size = E := ⟨_, rfl⟩
        rw [hE] at HR3
        obtain ⟨c, hcc, hcw⟩ : ∃ c : UInt8, T[0]'hp = c ∧ (((c.toNat : Int) == 47) = true ∨ (((c.toNat : Int) == 47) = false ∧ ((c.toNat : Int) == 46) = true)) := by
          rcases hc with ⟨_, h⟩ | ⟨_, h⟩
          · exact ⟨47, h, .inl rfl⟩
          · exact ⟨46, h, .inr ⟨rfl, rfl⟩⟩
        have hp1 : (1 : Int) ≤ (T.size : Int) := by omega
        clear hc
        cases hme : (M.toList == E.toList) with
        | true =>
          obtain rfl : R = true := by rw [HR3.out, hme]
          clear HR3
          rcases hcw with hw1 | ⟨hw1, hw2⟩
          all_goals
            go_wp2_with fail
            refine (CM.out _).mono ?_
            rintro e w1 ⟨rfl, g1⟩
            go_wp2
            go_ret
            exact ⟨⟨_, rfl, rfl⟩, g1⟩
        | false =>
          obtain rfl : R = false := by rw [HR3.out, hme]
          clear HR3
          rcases hcw with hw1 | ⟨hw1, hw2⟩
          all_goals
            go_wp2_with fail
            refine (CM.out _).mono ?_
            rintro e w1 ⟨rfl, g1⟩
            go_wp2_with fail
            refine (errorsNew_calls _ _).mono ?_
            rintro e w3 ⟨⟨a, rfl⟩, g3⟩
            go_wp2
            go_ret
            exact ⟨⟨_, rfl, _, _, rfl⟩, ((g1.trans g3).alloc _)⟩
end Go.Proofs.YtndimgajkjkgfaaDoor
