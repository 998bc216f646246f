/- Walks of the reference's order of two versions: Pre, Compare. -/
import Derived.Test.YtppnjkfeefmohaaDoorSpD
namespace Go.Proofs.YtppnjkfeefmohaaDoor
open Go.RowKit Str Ver
set_option linter.unusedVariables false

/-- one step of the order of two series -/
theorem pre_step (x y : List UInt8) : Cmp.list one (split 46 x) (split 46 y) =
    if one (x.takeWhile (· != 46)) (y.takeWhile (· != 46)) = 0 then
      (if (x.dropWhile (· != 46)).isEmpty = true then (if (y.dropWhile (· != 46)).isEmpty = true then 0 else -1)
       else if (y.dropWhile (· != 46)).isEmpty = true then 1 else Cmp.list one (split 46 (x.dropWhile (· != 46)).tail) (split 46 (y.dropWhile (· != 46)).tail))
    else one (x.takeWhile (· != 46)) (y.takeWhile (· != 46)) := by
  rw [split_cons_eq 46 x, split_cons_eq 46 y]
  have e : ∀ (a b : List UInt8) (l m : List (List UInt8)), Cmp.list one (a :: l) (b :: m) = if one a b = 0 then Cmp.list one l m else one a b := fun _ _ _ _ => rfl
  rw [e]
  congr 1
  have ne := fun t => split_ne 46 t
  cases x.dropWhile (· != 46) with
  | nil =>
    cases y.dropWhile (· != 46) with
    | nil => rfl
    | cons c t =>
      have := ne t
      cases h : split 46 t with
      | nil => exact absurd h this
      | cons a l => simp [h]; rfl
  | cons d u =>
    cases y.dropWhile (· != 46) with
    | nil =>
      have := ne u
      cases h : split 46 u with
      | nil => exact absurd h this
      | cons a l => simp [h]; rfl
    | cons c t => rfl

/-- a text cut at a point: its parts, and what they hold -/
theorem cut_parts (x : ByteArray) (w : World) (hx : x.size ≤ 140737488351232) : ∃ (A C : ByteArray) (m : Bool),
    x.data.toList.takeWhile (· != 46) = A.data.toList ∧ (x.data.toList.dropWhile (· != 46)).tail = C.data.toList ∧ (x.data.toList.dropWhile (· != 46)).isEmpty = !m ∧
    A.size ≤ 140737488351232 ∧ C.size ≤ 140737488351232 ∧ (m = true → C.size < x.size) ∧
    ∀ w, Calls Tryd.prog 14 #[.string x, .int .u8 46] w fun e w' => e = .returned (.tuple #[.string A, .string C, .bool m]) ∧ Drew w w' := by
  obtain ⟨A, hA⟩ : ∃ A : ByteArray, x.data.toList.takeWhile (· != 46) = A.data.toList := ⟨B _, (B_data _).symm⟩
  obtain ⟨C, hC⟩ : ∃ C : ByteArray, (x.data.toList.dropWhile (· != 46)).tail = C.data.toList := ⟨B _, (B_data _).symm⟩
  obtain ⟨m, hm⟩ : ∃ m, (!(x.data.toList.dropWhile (· != 46)).isEmpty) = m := ⟨_, rfl⟩
  have hAs : A.size ≤ 140737488351232 := by
    have := (List.takeWhile_sublist (· != 46) (l := x.data.toList)).length_le
    rw [hA, ← Lib.size_eq, ← Lib.size_eq] at this; omega
  have hCs : C.size ≤ 140737488351232 := by
    have := (List.dropWhile_sublist (· != 46) (l := x.data.toList)).length_le
    have h2 := congrArg List.length hC
    rw [List.length_tail, ← Lib.size_eq] at h2
    rw [← Lib.size_eq] at this; omega
  have hCx : m = true → C.size < x.size := by
    intro e
    have := (List.dropWhile_sublist (· != 46) (l := x.data.toList)).length_le
    have h2 := congrArg List.length hC
    rw [List.length_tail, ← Lib.size_eq] at h2
    rw [← Lib.size_eq] at this
    rw [e] at hm
    cases hd : x.data.toList.dropWhile (· != 46) with
    | nil => rw [hd] at hm; simp at hm
    | cons c t => rw [hd] at this h2; simp at this h2; omega
  exact ⟨A, C, m, hA, hC, by rw [← hm, Bool.not_not], hAs, hCs, hCx, fun w => Cut_tell w rfl hx hA hC hm⟩

set_option maxHeartbeats 2000000 in
theorem Pre_calls (s t : ByteArray) (w : World) (hs : s.size ≤ 140737488351232) (ht : t.size ≤ 140737488351232) :
    Calls Tryd.prog 17 #[.string s, .string t] w fun e w' => e = .returned (.int .i64 (Ver.pre s.data.toList t.data.toList)) ∧ Drew w w' := by
  obtain ⟨R, hR⟩ : ∃ R, Ver.pre s.data.toList t.data.toList = R := ⟨_, rfl⟩
  have HR := Lib.hid hR
  rw [hR]
  clear hR
  by_cases e : s.data.toList = t.data.toList
  · have h1 : (s.toList == t.toList) = true := by rw [eq_list]; exact decide_eq_true e
    obtain rfl : R = 0 := by rw [← HR.out, e]; exact good_pre.self _
    clear HR e
    go_enter Tryd.func17, Tryd.ntmps17
    go_wp2
    go_ret
    exact ⟨rfl, Drew.refl _⟩
  have h1 : (s.toList == t.toList) = false := by rw [eq_list]; exact decide_eq_false e
  by_cases hz : s.size = 0
  · obtain rfl := size_zero hz
    have h2 := toList_nil
    obtain rfl : R = 1 := by
      rw [← HR.out]; unfold Ver.pre; rw [B_data, if_pos rfl, if_neg]
      intro e2; exact e (by rw [e2, B_data])
    clear HR e
    go_enter Tryd.func17, Tryd.ntmps17
    go_wp2
    go_ret
    exact ⟨rfl, Drew.refl _⟩
  have h2 := toList_ne (s := s) (by omega)
  by_cases hz2 : t.size = 0
  · obtain rfl := size_zero hz2
    have h3 := toList_nil
    obtain rfl : R = -1 := by
      rw [← HR.out]; unfold Ver.pre; rw [B_data, if_neg (list_of_size (by omega)), if_pos rfl]
    clear HR e
    go_enter Tryd.func17, Tryd.ntmps17
    go_wp2
    go_ret
    exact ⟨rfl, Drew.refl _⟩
  have h3 := toList_ne (s := t) (by omega)
  have p1 : 1 ≤ s.size := by omega
  have p2 : 1 ≤ t.size := by omega
  have p1' : (1 : Int) ≤ s.size := by omega
  have p2' : (1 : Int) ≤ t.size := by omega
  have HV : Hid (R = Cmp.list one (split 46 (s.extract 1 s.size).data.toList) (split 46 (t.extract 1 t.size).data.toList)) := by
    show _ = _; rw [← HR.out, cut1, cut1]; unfold Ver.pre; rw [if_neg (list_of_size (by omega)), if_neg (list_of_size (by omega))]
  have q1 : (s.extract 1 s.size).size ≤ 140737488351232 := by rw [cut1_size]; omega
  have q2 : (t.extract 1 t.size).size ≤ 140737488351232 := by rw [cut1_size]; omega
  have Q1 := Lib.hid q1
  have Q2 := Lib.hid q2
  clear HR e q1 q2
  go_enter Tryd.func17, Tryd.ntmps17
  go_wp2
  go_quiet (fail)
  go_wp2
  go_loopg [0, 1, 5, 6, 7, 8, 9, 10, 11] (s.size + 1) (fun g v0 v1 v5 v6 v7 v8 v9 v10 v11 wr => ∃ x y : ByteArray, v0 = .string x ∧ v1 = .string y ∧ x.size < g ∧ x.size ≤ 140737488351232 ∧ y.size ≤ 140737488351232 ∧ Drew w wr ∧
    Hid (R = Cmp.list one (split 46 x.data.toList) (split 46 y.data.toList)))
  case atStart => exact ⟨s.extract 1 s.size, t.extract 1 t.size, rfl, rfl, by rw [cut1_size]; omega, Q1.out, Q2.out, ⟨_, rfl⟩, HV⟩
  case round =>
    clear HV h1 h2 h3 p1 p2 p1' p2' Q1 Q2
    obtain ⟨x, y, rfl, rfl, hg, hx, hy, ⟨n, rfl⟩, HV⟩ := hrel
    obtain ⟨A, C, m, a1, a2, a3, a4, a5, a6, a7⟩ := cut_parts x w hx
    obtain ⟨A', C', m', b1, b2, b3, b4, b5, b6, b7⟩ := cut_parts y w hy
    have HS : Hid (R = if one A.data.toList A'.data.toList = 0 then
      (if m = false then (if m' = false then 0 else -1) else if m' = false then 1 else Cmp.list one (split 46 C.data.toList) (split 46 C'.data.toList))
      else one A.data.toList A'.data.toList) := by
      show _ = _
      rw [HV.out, pre_step, a1, a2, a3, b1, b2, b3]
      cases m <;> cases m' <;> rfl
    have D1 := Lib.hid a7
    have D2 := Lib.hid b7
    have DC := Lib.hid a6
    have DO : Hid (∀ w, Calls Tryd.prog 30 #[.string A, .string A'] w fun e w' => e = .returned (.int .i64 (one A.data.toList A'.data.toList)) ∧ w = w') := fun w => one_calls A A' w a4 b4
    clear HV a1 a2 a3 a4 a6 a7 b1 b2 b3 b4 b6 b7
    generalize one A.data.toList A'.data.toList = c at *
    by_cases hc : c = 0
    case neg =>
      have hb : (c != 0) = true := bne_iff_ne.2 hc
      obtain rfl : R = c := by rw [HS.out, if_neg hc]
      clear HS hc hg
      go_wp2_with fail
      refine (D1.out _).mono ?_
      rintro e w' ⟨rfl, n1, rfl⟩
      go_wp2_with fail
      refine (D2.out _).mono ?_
      rintro e w' ⟨rfl, n2, rfl⟩
      go_wp2_with fail
      refine (DO.out _).mono ?_
      rintro e w' ⟨rfl, rfl⟩
      go_wp2
      go_ret
      exact ⟨rfl, ⟨_, rfl⟩⟩
    subst hc
    have hb : ((0 : Int) != 0) = false := rfl
    cases m <;> cases m'
    case true.true =>
      have HN : Hid (R = Cmp.list one (split 46 C.data.toList) (split 46 C'.data.toList)) := by show _ = _; rw [HS.out]; rfl
      have hCC := DC.out rfl
      clear HS DC
      go_wp2_with fail
      refine (D1.out _).mono ?_
      rintro e w' ⟨rfl, n1, rfl⟩
      go_wp2_with fail
      refine (D2.out _).mono ?_
      rintro e w' ⟨rfl, n2, rfl⟩
      go_wp2_with fail
      refine (DO.out _).mono ?_
      rintro e w' ⟨rfl, rfl⟩
      go_wp2
      go_roundg (gk - 1)
      case measure => omega
      case rel => exact ⟨C, C', rfl, rfl, by omega, a5, b5, ⟨_, rfl⟩, HN⟩
    all_goals
      have HN := HS.out
      simp only [if_pos, reduceCtorEq, if_false] at HN
      subst HN
      clear HS DC hg
      go_wp2_with fail
      refine (D1.out _).mono ?_
      rintro e w' ⟨rfl, n1, rfl⟩
      go_wp2_with fail
      refine (D2.out _).mono ?_
      rintro e w' ⟨rfl, n2, rfl⟩
      go_wp2_with fail
      refine (DO.out _).mono ?_
      rintro e w' ⟨rfl, rfl⟩
      go_wp2
      go_ret
      exact ⟨rfl, ⟨_, rfl⟩⟩
end Go.Proofs.YtppnjkfeefmohaaDoor
