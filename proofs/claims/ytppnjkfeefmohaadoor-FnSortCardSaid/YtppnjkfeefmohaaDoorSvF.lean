/- The walk of package semver's comparePrerelease. -/
import Derived.Test.YtppnjkfeefmohaaDoorSvE
namespace Go.Proofs.YtppnjkfeefmohaaDoor
open Go.RowKit Str Ver
set_option linter.unusedVariables false

/-- the identifiers behind a first sign -/
def ids (l : List UInt8) : List (List UInt8) := if l = [] then [] else split 46 l.tail

theorem ids_cons {l : List UInt8} (h : l ≠ []) : ids l = l.tail.takeWhile (· != 46) :: ids (l.tail.dropWhile (· != 46)) := by
  unfold ids
  rw [if_neg h, split_cons_eq]
  congr 1
  cases l.tail.dropWhile (· != 46) with
  | nil => rfl
  | cons c t => simp

theorem drop_head {l : List UInt8} : l.dropWhile (· != 46) = [] ∨ (l.dropWhile (· != 46)).head? = some 46 := by
  induction l with
  | nil => exact .inl rfl
  | cons c l ih =>
    simp only [List.dropWhile_cons]
    by_cases h : (c != 46) = true
    · rw [if_pos h]; exact ih
    · rw [if_neg h]; right; simp at h; simp [h]

/-- what may stand behind a version's dash, with it -/
def PreOk (l : List UInt8) : Prop := l = [] ∨ (l.head? = some 45 ∧ ∀ a ∈ ids l, a ≠ [])

theorem pre_ids (l m : List UInt8) (hl : l ≠ []) (hm : m ≠ []) : Ver.pre l m = Cmp.list one (ids l) (ids m) := by
  unfold Ver.pre ids; rw [if_neg hl, if_neg hm, if_neg hl, if_neg hm]

/-- two texts that are unlike, and begin alike -/
def Unlike (l m : List UInt8) : Prop := l ≠ m ∧ (l = [] ∨ m = [] ∨ l.head? = m.head?)

theorem Unlike.next {l m : List UInt8} (h : Unlike l m) (hl : l ≠ []) (hm : m ≠ []) (hd : l.tail.takeWhile (· != 46) = m.tail.takeWhile (· != 46)) :
    Unlike (l.tail.dropWhile (· != 46)) (m.tail.dropWhile (· != 46)) := by
  refine ⟨fun e => ?_, ?_⟩
  · apply h.1
    have h1 := List.takeWhile_append_dropWhile (p := (· != 46)) (l := l.tail)
    have h2 := List.takeWhile_append_dropWhile (p := (· != 46)) (l := m.tail)
    rw [hd, e, h2] at h1
    rcases h.2 with h3 | h3 | h3
    · exact absurd h3 hl
    · exact absurd h3 hm
    · cases l with
      | nil => exact absurd rfl hl
      | cons c l =>
        cases m with
        | nil => exact absurd rfl hm
        | cons d m => simp at h3 h1; rw [h3, h1]
  · rcases drop_head (l := l.tail) with h1 | h1
    · exact .inl h1
    · rcases drop_head (l := m.tail) with h2 | h2
      · exact .inr (.inl h2)
      · exact .inr (.inr (by rw [h1, h2]))

theorem figs_of {a : List UInt8} (h : a ≠ []) : figs a = a.all dig := by
  unfold figs
  cases a with
  | nil => exact absurd rfl h
  | cons c a => simp

theorem one_tell {a b : List UInt8} (ha : a ≠ []) (hb : b ≠ []) (h : a ≠ b) : one a b =
    if a.all dig = true then (if b.all dig = true then (if a.length < b.length then -1 else if b.length < a.length then 1 else if Op.bytesLess a b = true then -1 else 1) else -1)
    else if b.all dig = true then 1 else if Op.bytesLess a b = true then -1 else 1 := by
  unfold one
  rw [figs_of ha, figs_of hb, figures_tell, if_neg h, bytes_tell a b h]

theorem list_eq_step {a b : List UInt8} {l m : List (List UInt8)} (h : a = b) : Cmp.list one (a :: l) (b :: m) = Cmp.list one l m := by
  subst h
  have : Cmp.list one (a :: l) (a :: m) = if one a a = 0 then Cmp.list one l m else one a a := rfl
  rw [this, if_pos (good_one.self a)]
theorem list_ne_step {a b : List UInt8} {l m : List (List UInt8)} (h : a ≠ b) : Cmp.list one (a :: l) (b :: m) = one a b := by
  have : Cmp.list one (a :: l) (b :: m) = if one a b = 0 then Cmp.list one l m else one a b := rfl
  rw [this, if_neg (fun e => h (one_eq a b e))]

theorem eq_B (l m : List UInt8) : ((B l).toList == (B m).toList) = decide (l = m) := by rw [eq_list, B_data, B_data]
theorem ne_B (l m : List UInt8) : ((B l).toList != (B m).toList) = !decide (l = m) := by rw [bne, eq_B]
theorem list_of_size {s : ByteArray} (h : 0 < s.size) : s.data.toList ≠ [] := by intro e; rw [Lib.size_eq, e] at h; simp at h

set_option maxHeartbeats 4000000 in
theorem comparePrerelease_calls (s t : ByteArray) (w : World) (hs : s.size ≤ 140737488351232) (ht : t.size ≤ 140737488351232) (hps : PreOk s.data.toList) (hpt : PreOk t.data.toList) :
    Calls Tryd.prog 40 #[.string s, .string t] w fun e w' => e = .returned (.int .i64 (Ver.pre s.data.toList t.data.toList)) ∧ Drew w w' := by
  obtain ⟨R, hR⟩ : ∃ R, Ver.pre s.data.toList t.data.toList = R := ⟨_, rfl⟩
  have HR := Lib.hid hR
  rw [hR]
  have HPS := Lib.hid hps
  have HPT := Lib.hid hpt
  clear hR hps hpt
  by_cases e : s.data.toList = t.data.toList
  · have h1 : (s.toList == t.toList) = true := by rw [eq_list]; exact decide_eq_true e
    obtain rfl : R = 0 := by rw [← HR.out, e]; exact good_pre.self _
    clear HR HPS HPT e
    go_enter Tryd.func40, Tryd.ntmps40
    go_wp2
    go_ret
    exact ⟨rfl, Drew.refl _⟩
  have h1 : (s.toList == t.toList) = false := by rw [eq_list]; exact decide_eq_false e
  by_cases hz : s.size = 0
  · obtain rfl := size_zero hz
    have h2 := toList_nil
    obtain rfl : R = 1 := by
      rw [← HR.out]; unfold Ver.pre; rw [B_data, if_pos rfl, if_neg]
      intro e2; exact e (by rw [e2, B_data])
    clear HR HPS HPT e
    go_enter Tryd.func40, Tryd.ntmps40
    go_wp2
    go_ret
    exact ⟨rfl, Drew.refl _⟩
  have h2 := toList_ne (s := s) (by omega)
  by_cases hz2 : t.size = 0
  · obtain rfl := size_zero hz2
    have h3 := toList_nil
    obtain rfl : R = -1 := by
      rw [← HR.out]; unfold Ver.pre; rw [B_data, if_neg (list_of_size (by omega)), if_pos rfl]
    clear HR HPS HPT e
    go_enter Tryd.func40, Tryd.ntmps40
    go_wp2
    go_ret
    exact ⟨rfl, Drew.refl _⟩
  have h3 := toList_ne (s := t) (by omega)
  have HU : Hid (Unlike s.data.toList t.data.toList) := ⟨e, .inr (.inr (by
    rcases HPS.out with h | h
    · exact absurd h (list_of_size (by omega))
    · rcases HPT.out with k | k
      · exact absurd k (list_of_size (by omega))
      · rw [h.1, k.1]))⟩
  have HX : Hid (∀ a ∈ ids s.data.toList, a ≠ []) := by
    rcases HPS.out with h | h
    · exact absurd h (list_of_size (by omega))
    · exact h.2
  have HY : Hid (∀ a ∈ ids t.data.toList, a ≠ []) := by
    rcases HPT.out with h | h
    · exact absurd h (list_of_size (by omega))
    · exact h.2
  have HV : Hid (R = Cmp.list one (ids s.data.toList) (ids t.data.toList)) := by
    show _ = _; rw [← HR.out, pre_ids _ _ (list_of_size (by omega)) (list_of_size (by omega))]
  clear HR HPS HPT e
  go_enter Tryd.func40, Tryd.ntmps40
  go_wp2
  go_loopg [0, 1, 5, 6, 7, 8] (s.size + 1) (fun g v0 v1 v5 v6 v7 v8 wr => ∃ x y : ByteArray, v0 = .string x ∧ v1 = .string y ∧ x.size < g ∧ x.size ≤ 140737488351232 ∧ y.size ≤ 140737488351232 ∧ Drew w wr ∧
    Hid (Unlike x.data.toList y.data.toList) ∧ Hid (∀ a ∈ ids x.data.toList, a ≠ []) ∧ Hid (∀ a ∈ ids y.data.toList, a ≠ []) ∧ Hid (R = Cmp.list one (ids x.data.toList) (ids y.data.toList)))
  case atStart => exact ⟨s, t, rfl, rfl, by omega, hs, ht, Drew.refl _, HU, HX, HY, HV⟩
  case round =>
    clear HU HX HY HV h1 h2 h3
    obtain ⟨x, y, rfl, rfl, hg, hx, hy, ⟨n, rfl⟩, HU, HX, HY, HV⟩ := hrel
    by_cases hzx : x.size = 0
    · obtain rfl := size_zero hzx
      have g1 := toList_nil
      have g1' : ((B []).toList != ([] : List UInt8)) = false := by rw [B_list]; rfl
      have hR1 : R = -1 := by
        have h5 := HU.out.1
        rw [HV.out, B_data]
        rw [B_data] at h5
        have : y.data.toList ≠ [] := fun k => h5 k.symm
        rw [ids_cons this]; rfl
      clear HU HX HY HV hg
      go_wp2
      go_ret
      exact ⟨by rw [hR1]; rfl, ⟨_, rfl⟩⟩
    have hpx : 0 < x.size := by omega
    have g1 := toList_ne hpx
    have g1' : (x.toList != ([] : List UInt8)) = true := by rw [bne, g1]; rfl
    have hnx := list_of_size hpx
    by_cases hzy : y.size = 0
    · obtain rfl := size_zero hzy
      have g2 := toList_nil
      have g2' : ((B []).toList != ([] : List UInt8)) = false := by rw [B_list]; rfl
      have hR1 : R = 1 := by
        rw [HV.out, B_data, ids_cons hnx]; rfl
      clear HU HX HY HV hg hnx
      go_wp2
      go_ret
      exact ⟨by rw [hR1]; rfl, ⟨_, rfl⟩⟩
    have hpy : 0 < y.size := by omega
    have g2 := toList_ne hpy
    have g2' : (y.toList != ([] : List UInt8)) = true := by rw [bne, g2]; rfl
    have hny := list_of_size hpy
    have hdx := ids_cons hnx
    have hdy := ids_cons hny
    have hlx : (x.data.toList.tail.dropWhile (· != 46)).length < x.size := by
      have := (List.dropWhile_sublist (· != 46) (l := x.data.toList.tail)).length_le
      rw [List.length_tail, ← Lib.size_eq] at this; omega
    have hly : (y.data.toList.tail.dropWhile (· != 46)).length < y.size := by
      have := (List.dropWhile_sublist (· != 46) (l := y.data.toList.tail)).length_le
      rw [List.length_tail, ← Lib.size_eq] at this; omega
    have hlx2 : (x.data.toList.tail.takeWhile (· != 46)).length ≤ 140737488351232 := by
      have := (List.takeWhile_sublist (· != 46) (l := x.data.toList.tail)).length_le
      rw [List.length_tail, ← Lib.size_eq] at this; omega
    have hly2 : (y.data.toList.tail.takeWhile (· != 46)).length ≤ 140737488351232 := by
      have := (List.takeWhile_sublist (· != 46) (l := y.data.toList.tail)).length_le
      rw [List.length_tail, ← Lib.size_eq] at this; omega
    have hx1 : (x.extract 1 x.size).size ≤ 140737488351232 := by rw [cut1_size]; omega
    have hy1 : (y.extract 1 y.size).size ≤ 140737488351232 := by rw [cut1_size]; omega
    have NX : ∀ w, Calls Tryd.prog 64 #[.string (x.extract 1 x.size)] w fun e w' => e = .returned (.tuple #[.string (B (x.data.toList.tail.takeWhile (· != 46))), .string (B (x.data.toList.tail.dropWhile (· != 46)))]) ∧ Drew w w' := fun w =>
      (nextIdent_calls _ w hx1).mono fun e w' ⟨p, q⟩ => ⟨by rw [p]; unfold nextIdentV; rw [cut1], q⟩
    have NY : ∀ w, Calls Tryd.prog 64 #[.string (y.extract 1 y.size)] w fun e w' => e = .returned (.tuple #[.string (B (y.data.toList.tail.takeWhile (· != 46))), .string (B (y.data.toList.tail.dropWhile (· != 46)))]) ∧ Drew w w' := fun w =>
      (nextIdent_calls _ w hy1).mono fun e w' ⟨p, q⟩ => ⟨by rw [p]; unfold nextIdentV; rw [cut1], q⟩
    by_cases hd : x.data.toList.tail.takeWhile (· != 46) = y.data.toList.tail.takeWhile (· != 46)
    · have HU2 := Lib.hid (HU.out.next hnx hny hd)
      have HV2 : Hid (R = Cmp.list one (ids (x.data.toList.tail.dropWhile (· != 46))) (ids (y.data.toList.tail.dropWhile (· != 46)))) := by
        show _ = _; rw [HV.out, hdx, hdy, list_eq_step hd]
      have HX2 : Hid (∀ a ∈ ids (x.data.toList.tail.dropWhile (· != 46)), a ≠ []) := fun a ha => HX.out a (by rw [hdx]; exact List.mem_cons_of_mem _ ha)
      have HY2 : Hid (∀ a ∈ ids (y.data.toList.tail.dropWhile (· != 46)), a ≠ []) := fun a ha => HY.out a (by rw [hdy]; exact List.mem_cons_of_mem _ ha)
      have g3 : ((B (x.data.toList.tail.takeWhile (· != 46))).toList != (B (y.data.toList.tail.takeWhile (· != 46))).toList) = false := by rw [ne_B, decide_eq_true hd]; rfl
      have g3' : ((B (x.data.toList.tail.takeWhile (· != 46))).toList == (B (y.data.toList.tail.takeWhile (· != 46))).toList) = true := by rw [eq_B, decide_eq_true hd]
      clear HU HX HY HV hdx hdy hd hnx hny
      generalize x.data.toList.tail.takeWhile (· != 46) = dx at *
      generalize y.data.toList.tail.takeWhile (· != 46) = dy at *
      generalize x.data.toList.tail.dropWhile (· != 46) = x2 at *
      generalize y.data.toList.tail.dropWhile (· != 46) = y2 at *
      have HNX := Lib.hid NX
      have HNY := Lib.hid NY
      clear NX NY
      go_wp2_with fail
      refine (HNX.out _).mono ?_
      rintro e w' ⟨rfl, n1, rfl⟩
      go_wp2_with fail
      refine (HNY.out _).mono ?_
      rintro e w' ⟨rfl, n2, rfl⟩
      go_wp2
      go_roundg (gk - 1)
      case measure => omega
      case rel => exact ⟨B x2, B y2, rfl, rfl, by rw [B_size]; omega, by rw [B_size]; omega, by rw [B_size]; omega, ⟨_, rfl⟩, by rw [B_data, B_data]; exact HU2, by rw [B_data]; exact HX2, by rw [B_data]; exact HY2, by rw [B_data, B_data]; exact HV2⟩
    · have hax : x.data.toList.tail.takeWhile (· != 46) ≠ [] := HX.out _ (by rw [hdx]; exact List.mem_cons_self)
      have hay : y.data.toList.tail.takeWhile (· != 46) ≠ [] := HY.out _ (by rw [hdy]; exact List.mem_cons_self)
      have HR0 : Hid (R = one (x.data.toList.tail.takeWhile (· != 46)) (y.data.toList.tail.takeWhile (· != 46))) := by show _ = _; rw [HV.out, hdx, hdy, list_ne_step hd]
      have HO := Lib.hid (one_tell hax hay hd)
      have g3 : ((B (x.data.toList.tail.takeWhile (· != 46))).toList != (B (y.data.toList.tail.takeWhile (· != 46))).toList) = true := by rw [ne_B, decide_eq_false hd]; rfl
      have g3' : ((B (x.data.toList.tail.takeWhile (· != 46))).toList == (B (y.data.toList.tail.takeWhile (· != 46))).toList) = false := by rw [eq_B, decide_eq_false hd]
      clear HU HX HY HV hdx hdy hd hnx hny hax hay hlx hly hg
      generalize x.data.toList.tail.takeWhile (· != 46) = dx at *
      generalize y.data.toList.tail.takeWhile (· != 46) = dy at *
      generalize x.data.toList.tail.dropWhile (· != 46) = x2 at *
      generalize y.data.toList.tail.dropWhile (· != 46) = y2 at *
      have hbl : Op.bytesLess (B dx).toList (B dy).toList = Op.bytesLess dx dy := by rw [B_list, B_list]
      have HSX : Hid ((B dx).size = dx.length ∧ (B dy).size = dy.length) := ⟨B_size _, B_size _⟩
      cases h1 : dx.all dig with
      | true =>
        have HN1 : Hid ((B dx).data.toList.all dig = true) := by show _ = _; rw [B_data]; exact h1
        cases h2 : dy.all dig with
        | true =>
          have HN2 : Hid ((B dy).data.toList.all dig = true) := by show _ = _; rw [B_data]; exact h2
          by_cases h3 : dx.length < dy.length
          · have k1 : (B dx).size < (B dy).size := by rw [B_size, B_size]; exact h3
            have HR1 : Hid (R = -1) := by show _ = _; rw [HR0.out, HO.out, h1, h2, if_pos rfl, if_pos rfl, if_pos h3]
            clear HR0 HO h1 h2 h3 hbl HSX
            have HNX := Lib.hid NX
            have HNY := Lib.hid NY
            clear NX NY
            go_wp2_with fail
            refine (HNX.out _).mono ?_
            rintro e w' ⟨rfl, n1, rfl⟩
            go_wp2_with fail
            refine (HNY.out _).mono ?_
            rintro e w' ⟨rfl, n2, rfl⟩
            go_wp2_with fail
            refine (isNum_calls _ _ HN1.out _ (by rw [B_size]; omega)).mono ?_
            rintro e w' ⟨rfl, rfl⟩
            go_wp2_with fail
            refine (isNum_calls _ _ HN2.out _ (by rw [B_size]; omega)).mono ?_
            rintro e w' ⟨rfl, rfl⟩
            go_wp2
            go_ret
            exact ⟨by rw [HR1.out]; rfl, ⟨_, rfl⟩⟩
          by_cases h4 : dy.length < dx.length
          · have k1 : ¬ (B dx).size < (B dy).size := by rw [B_size, B_size]; exact h3
            have k2 : (B dy).size < (B dx).size := by rw [B_size, B_size]; exact h4
            have HR1 : Hid (R = 1) := by show _ = _; rw [HR0.out, HO.out, h1, h2, if_pos rfl, if_pos rfl, if_neg h3, if_pos h4]
            clear HR0 HO h1 h2 h3 h4 hbl HSX
            have HNX := Lib.hid NX
            have HNY := Lib.hid NY
            clear NX NY
            go_wp2_with fail
            refine (HNX.out _).mono ?_
            rintro e w' ⟨rfl, n1, rfl⟩
            go_wp2_with fail
            refine (HNY.out _).mono ?_
            rintro e w' ⟨rfl, n2, rfl⟩
            go_wp2_with fail
            refine (isNum_calls _ _ HN1.out _ (by rw [B_size]; omega)).mono ?_
            rintro e w' ⟨rfl, rfl⟩
            go_wp2_with fail
            refine (isNum_calls _ _ HN2.out _ (by rw [B_size]; omega)).mono ?_
            rintro e w' ⟨rfl, rfl⟩
            go_wp2
            go_ret
            exact ⟨by rw [HR1.out]; rfl, ⟨_, rfl⟩⟩
          have k1 : ¬ (B dx).size < (B dy).size := by rw [B_size, B_size]; exact h3
          have k2 : ¬ (B dy).size < (B dx).size := by rw [B_size, B_size]; exact h4
          cases h5 : Op.bytesLess dx dy with
          | true =>
            rw [h5] at hbl
            have HR1 : Hid (R = -1) := by show _ = _; rw [HR0.out, HO.out, h1, h2, if_pos rfl, if_pos rfl, if_neg h3, if_neg h4, h5]; rfl
            clear HR0 HO h1 h2 h3 h4 h5 HSX
            have HNX := Lib.hid NX
            have HNY := Lib.hid NY
            clear NX NY
            go_wp2_with fail
            refine (HNX.out _).mono ?_
            rintro e w' ⟨rfl, n1, rfl⟩
            go_wp2_with fail
            refine (HNY.out _).mono ?_
            rintro e w' ⟨rfl, n2, rfl⟩
            go_wp2_with fail
            refine (isNum_calls _ _ HN1.out _ (by rw [B_size]; omega)).mono ?_
            rintro e w' ⟨rfl, rfl⟩
            go_wp2_with fail
            refine (isNum_calls _ _ HN2.out _ (by rw [B_size]; omega)).mono ?_
            rintro e w' ⟨rfl, rfl⟩
            go_wp2
            go_ret
            exact ⟨by rw [HR1.out]; rfl, ⟨_, rfl⟩⟩
          | false =>
            rw [h5] at hbl
            have HR1 : Hid (R = 1) := by show _ = _; rw [HR0.out, HO.out, h1, h2, if_pos rfl, if_pos rfl, if_neg h3, if_neg h4, h5]; rfl
            clear HR0 HO h1 h2 h3 h4 h5 HSX
            have HNX := Lib.hid NX
            have HNY := Lib.hid NY
            clear NX NY
            go_wp2_with fail
            refine (HNX.out _).mono ?_
            rintro e w' ⟨rfl, n1, rfl⟩
            go_wp2_with fail
            refine (HNY.out _).mono ?_
            rintro e w' ⟨rfl, n2, rfl⟩
            go_wp2_with fail
            refine (isNum_calls _ _ HN1.out _ (by rw [B_size]; omega)).mono ?_
            rintro e w' ⟨rfl, rfl⟩
            go_wp2_with fail
            refine (isNum_calls _ _ HN2.out _ (by rw [B_size]; omega)).mono ?_
            rintro e w' ⟨rfl, rfl⟩
            go_wp2
            go_ret
            exact ⟨by rw [HR1.out]; rfl, ⟨_, rfl⟩⟩
        | false =>
          have HN2 : Hid ((B dy).data.toList.all dig = false) := by show _ = _; rw [B_data]; exact h2
          have HR1 : Hid (R = -1) := by show _ = _; rw [HR0.out, HO.out, h1, h2]; rfl
          clear HR0 HO h1 h2 hbl HSX
          have HNX := Lib.hid NX
          have HNY := Lib.hid NY
          clear NX NY
          go_wp2_with fail
          refine (HNX.out _).mono ?_
          rintro e w' ⟨rfl, n1, rfl⟩
          go_wp2_with fail
          refine (HNY.out _).mono ?_
          rintro e w' ⟨rfl, n2, rfl⟩
          go_wp2_with fail
          refine (isNum_calls _ _ HN1.out _ (by rw [B_size]; omega)).mono ?_
          rintro e w' ⟨rfl, rfl⟩
          go_wp2_with fail
          refine (isNum_calls _ _ HN2.out _ (by rw [B_size]; omega)).mono ?_
          rintro e w' ⟨rfl, rfl⟩
          go_wp2
          go_ret
          exact ⟨by rw [HR1.out]; rfl, ⟨_, rfl⟩⟩
      | false =>
        have HN1 : Hid ((B dx).data.toList.all dig = false) := by show _ = _; rw [B_data]; exact h1
        cases h2 : dy.all dig with
        | true =>
          have HN2 : Hid ((B dy).data.toList.all dig = true) := by show _ = _; rw [B_data]; exact h2
          have HR1 : Hid (R = 1) := by show _ = _; rw [HR0.out, HO.out, h1, h2]; rfl
          clear HR0 HO h1 h2 hbl HSX
          have HNX := Lib.hid NX
          have HNY := Lib.hid NY
          clear NX NY
          go_wp2_with fail
          refine (HNX.out _).mono ?_
          rintro e w' ⟨rfl, n1, rfl⟩
          go_wp2_with fail
          refine (HNY.out _).mono ?_
          rintro e w' ⟨rfl, n2, rfl⟩
          go_wp2_with fail
          refine (isNum_calls _ _ HN1.out _ (by rw [B_size]; omega)).mono ?_
          rintro e w' ⟨rfl, rfl⟩
          go_wp2_with fail
          refine (isNum_calls _ _ HN2.out _ (by rw [B_size]; omega)).mono ?_
          rintro e w' ⟨rfl, rfl⟩
          go_wp2
          go_ret
          exact ⟨by rw [HR1.out]; rfl, ⟨_, rfl⟩⟩
        | false =>
          have HN2 : Hid ((B dy).data.toList.all dig = false) := by show _ = _; rw [B_data]; exact h2
          cases h5 : Op.bytesLess dx dy with
          | true =>
            rw [h5] at hbl
            have HR1 : Hid (R = -1) := by show _ = _; rw [HR0.out, HO.out, h1, h2, h5]; rfl
            clear HR0 HO h1 h2 h5 HSX
            have HNX := Lib.hid NX
            have HNY := Lib.hid NY
            clear NX NY
            go_wp2_with fail
            refine (HNX.out _).mono ?_
            rintro e w' ⟨rfl, n1, rfl⟩
            go_wp2_with fail
            refine (HNY.out _).mono ?_
            rintro e w' ⟨rfl, n2, rfl⟩
            go_wp2_with fail
            refine (isNum_calls _ _ HN1.out _ (by rw [B_size]; omega)).mono ?_
            rintro e w' ⟨rfl, rfl⟩
            go_wp2_with fail
            refine (isNum_calls _ _ HN2.out _ (by rw [B_size]; omega)).mono ?_
            rintro e w' ⟨rfl, rfl⟩
            go_wp2
            go_ret
            exact ⟨by rw [HR1.out]; rfl, ⟨_, rfl⟩⟩
          | false =>
            rw [h5] at hbl
            have HR1 : Hid (R = 1) := by show _ = _; rw [HR0.out, HO.out, h1, h2, h5]; rfl
            clear HR0 HO h1 h2 h5 HSX
            have HNX := Lib.hid NX
            have HNY := Lib.hid NY
            clear NX NY
            go_wp2_with fail
            refine (HNX.out _).mono ?_
            rintro e w' ⟨rfl, n1, rfl⟩
            go_wp2_with fail
            refine (HNY.out _).mono ?_
            rintro e w' ⟨rfl, n2, rfl⟩
            go_wp2_with fail
            refine (isNum_calls _ _ HN1.out _ (by rw [B_size]; omega)).mono ?_
            rintro e w' ⟨rfl, rfl⟩
            go_wp2_with fail
            refine (isNum_calls _ _ HN2.out _ (by rw [B_size]; omega)).mono ?_
            rintro e w' ⟨rfl, rfl⟩
            go_wp2
            go_ret
            exact ⟨by rw [HR1.out]; rfl, ⟨_, rfl⟩⟩
#print axioms comparePrerelease_calls
end Go.Proofs.YtppnjkfeefmohaaDoor
