/- Walks of package module's SplitPathVersion and splitGopkgIn. -/
import Derived.Test.YtppnjkfeefmohaaDoorMdC
import Derived.Test.YtppnjkfeefmohaaDoorPth
import Derived.Deep.QuietTactic
import Derived.BigQuiet
namespace Go.Proofs.YtppnjkfeefmohaaDoor
open Go.RowKit Str
set_option linter.unusedVariables false

def splitVal (x : List UInt8 × List UInt8 × Bool) : Value := .tuple #[.string (B x.1), .string (B x.2.1), .bool x.2.2]

theorem two_iff {l : List UInt8} {j : Nat} {a b : UInt8} : Pth.two l (j + 2) a b ↔ l[j]? = some a ∧ l[j + 1]? = some b := by
  unfold Pth.two; simp
theorem not_two {l : List UInt8} {k : Nat} {a b : UInt8} (h : k < 2) : ¬ Pth.two l k a b := fun h' => by have := h'.1; omega

theorem gopI_no {l : List UInt8} {k : Nat} (h : ¬ Pth.two l k 46 118) : Pth.gopI l k = (l, [], false) := by unfold Pth.gopI; rw [if_pos h]
theorem plainV_no {l : List UInt8} {k : Nat} (h : k = l.length ∨ ¬ Pth.two l k 47 118) : Pth.plainV l k = (l, [], true) := by unfold Pth.plainV; rw [if_pos h]

theorem splitVal_bad {s : ByteArray} {x : List UInt8 × List UInt8 × Bool} {b : Bool} (h : x = (s.data.toList, [], b)) : splitVal x = .tuple #[.string s, .string ⟨#[]⟩, .bool b] := by
  rw [h]; unfold splitVal; rw [B_of]; rfl
theorem splitVal_good {s : ByteArray} {x : List UInt8 × List UInt8 × Bool} {j : Nat} (h : x = (s.data.toList.take j, s.data.toList.drop j, true)) : splitVal x = .tuple #[.string (s.extract 0 j), .string (s.extract j s.size), .bool true] := by
  rw [h]; unfold splitVal
  have h1 : B (s.data.toList.take j) = s.extract 0 j := of_data (by rw [B_data, Lib.extract_data]; simp)
  have h2 : B (s.data.toList.drop j) = s.extract j s.size := of_data (by rw [B_data, Lib.extract_to_end])
  rw [h1, h2]

theorem tail_size (s : ByteArray) (j : Nat) : (s.extract j s.size).size = s.size - j := by rw [Lib.size_eq, Lib.extract_to_end, List.length_drop, ← Lib.size_eq]
theorem tail_at {s : ByteArray} {j i : Nat} {c : UInt8} (h : i < (s.extract j s.size).size) (hc : s.data.toList[j + i]? = some c) : (s.extract j s.size)[i]'h = c := by
  have := byte_at _ i h
  rw [Lib.extract_to_end, List.getElem?_drop, hc] at this
  exact (Option.some.inj this).symm

set_option maxRecDepth 100000 in
set_option maxHeartbeats 8000000 in
theorem splitGopkgIn_calls (s : ByteArray) (w : World) (hs : s.size ≤ 140737488351232) (hg : Pth.gop.isPrefixOf s.data.toList = true) :
    Calls Tryd.prog 69 #[.string s] w fun e w' => e = .returned (splitVal (Pth.gopI s.data.toList (Pth.bk Ver.dig s.data.toList (Pth.endOf s.data.toList)))) ∧ Drew w w' := by
  have CP : Hid (∀ w, Calls Tryd.prog 68 #[.string s, .string ⟨#[103, 111, 112, 107, 103, 46, 105, 110, 47]⟩] w fun e w' => e = .returned (.bool true) ∧ w = w') := fun w =>
    (strings_HasPrefix s ⟨#[103, 111, 112, 107, 103, 46, 105, 110, 47]⟩ w).mono fun e w' ⟨p, q⟩ => ⟨by rw [p]; exact ret_bool hg, q.symm⟩
  obtain ⟨b, hb⟩ : ∃ b, Pth.uns.isSuffixOf s.data.toList = b := ⟨_, rfl⟩
  have CS : Hid (∀ w, Calls Tryd.prog 93 #[.string s, .string ⟨#[45, 117, 110, 115, 116, 97, 98, 108, 101]⟩] w fun e w' => e = .returned (.bool b) ∧ w = w') := fun w =>
    (strings_HasSuffix s ⟨#[45, 117, 110, 115, 116, 97, 98, 108, 101]⟩ w (by omega)).mono fun e w' ⟨p, q⟩ => ⟨by rw [p]; exact ret_bool hb, q.symm⟩
  have HL := Lib.hid (Lib.size_eq s)
  obtain ⟨E, hE⟩ : ∃ E, Pth.endOf s.data.toList = E := ⟨_, rfl⟩
  have hE2 : Hid ((b = true → 9 ≤ s.size ∧ E = s.size - 9) ∧ (b = false → E = s.size)) := by
    show _ ∧ _
    unfold Pth.endOf at hE
    rw [hb, ← Lib.size_eq] at hE
    constructor
    · intro h; subst h
      rw [if_pos rfl] at hE
      have := (Pth.suffix_drop.1 hb).1
      rw [← Lib.size_eq] at this
      exact ⟨this, hE.symm⟩
    · intro h; subst h
      rw [if_neg (by simp)] at hE; exact hE.symm
  rw [hE]
  obtain ⟨R, hR⟩ : ∃ R, Pth.bk Ver.dig s.data.toList E = R := ⟨_, rfl⟩
  rw [hR]
  have HB0 : Hid (R = Pth.bk Ver.dig s.data.toList E) := hR.symm
  clear hR hE hb hg
  have hEs : E ≤ s.size := by
    cases b with
    | true => have := hE2.out.1 rfl; omega
    | false => have := hE2.out.2 rfl; omega
  have HST : Hid ((b = true → (s.size : Int) - 9 = (E : Int)) ∧ (b = false → (s.size : Int) = (E : Int))) := ⟨fun h => by have := hE2.out.1 h; omega, fun h => by have := hE2.out.2 h; omega⟩
  have HP9 : Hid (b = true → 9 ≤ s.size) := fun h => (hE2.out.1 h).1
  clear hE2
  cases b
  all_goals
    first
      | have HS0 : Hid ((s.size : Int) = (E : Int)) := HST.out.2 rfl
      | have HS0 : Hid ((s.size : Int) - 9 = (E : Int)) := HST.out.1 rfl
    first
      | have hp9 := HP9.out rfl
      | have hp9 : 0 ≤ s.size := Nat.zero_le _
    go_enter Tryd.func69, Tryd.ntmps69
    go_wp2_with fail
    refine (CP.out _).mono ?_
    rintro e w' ⟨rfl, rfl⟩
    go_wp2_with fail
    refine (CS.out _).mono ?_
    rintro e w' ⟨rfl, rfl⟩
    go_wp2
    go_loopg [5] (s.size + 1) (fun g v4 wr => ∃ (k : Nat) (z : Int), v4 = .int .i64 z ∧ z = k ∧ k < g ∧ k ≤ s.size ∧ w = wr ∧ Hid (R = Pth.bk Ver.dig s.data.toList k))
    case atStart =>
      exact ⟨E, _, rfl, HS0.out, by omega, hEs, rfl, HB0⟩
    case round =>
      clear HB0 HST HP9 CP CS hEs HS0 hp9
      obtain ⟨k, z, rfl, hz, hg, hk, rfl, HB⟩ := hrel
      cases k with
      | zero =>
        have hz0 : ¬ 0 < z := by omega
        have hz1 : z ≤ 1 := by omega
        obtain rfl : R = 0 := HB.out
        have HV := Lib.hid (splitVal_bad (gopI_no (not_two (l := s.data.toList) (k := 0) (by omega))))
        clear HB hz hg hk
        go_wp2
        go_ret3
        exact ⟨by rw [HV.out]; rfl, Drew.refl _⟩
      | succ k =>
        have hlt : k < s.size := by omega
        have hz0 : 0 < z := by omega
        have hz1 : 0 ≤ z - 1 := by omega
        have hz2 : z - 1 < (s.size : Int) := by omega
        have hn1 : (z - 1).toNat = k := by omega
        obtain ⟨d, hd⟩ : ∃ d : UInt8, s[k]'hlt = d := ⟨_, rfl⟩
        have HD := Lib.hid (byte_at' s k hlt hd)
        by_cases hdig : 48 ≤ d.toNat ∧ d.toNat ≤ 57
        · have HN : Hid (R = Pth.bk Ver.dig s.data.toList k) := HB.out.trans (Pth.bk_yes HD.out (by unfold Ver.dig; exact decide_eq_true hdig))
          have HZ : Hid (z - 1 = (k : Int)) := by show _ = _; omega
          obtain ⟨d1, d2⟩ := hdig
          clear HB hz HD
          go_wp2
          go_roundg (gk - 1)
          case measure => omega
          case rel => exact ⟨k, z - 1, rfl, HZ.out, by omega, by omega, rfl, HN⟩
        obtain rfl : R = k + 1 := HB.out.trans (Pth.bk_no HD.out (by unfold Ver.dig; exact decide_eq_false hdig))
        clear HB
        by_cases hk0 : k = 0
        · have hz3 : z ≤ 1 := by omega
          have HV := Lib.hid (splitVal_bad (s := s) (gopI_no (not_two (l := s.data.toList) (k := k + 1) (by omega))))
          clear hz hg hk HD hk0
          rcases (by omega : d.toNat < 48 ∨ 57 < d.toNat) with hdd | hdd
          all_goals
            clear hdig
            go_wp2
            go_ret3
            exact ⟨by rw [HV.out]; rfl, Drew.refl _⟩
        have hz3 : ¬ z ≤ 1 := by omega
        by_cases hd118 : d = 118
        case neg =>
          have e1 : ((d.toNat : Int) != 118) = true := by rw [bne, show ((d.toNat : Int) == 118) = false from ne_nat hd118]; rfl
          have e1' : ((d.toNat : Int) == 118) = false := ne_nat hd118
          have HV := Lib.hid (splitVal_bad (s := s) (gopI_no (l := s.data.toList) (k := k + 1) (fun h => by
            have := h.2.2; rw [Nat.add_sub_cancel, HD.out] at this; exact hd118 (Option.some.inj this))))
          clear hz hg hk HD hk0 hd118
          rcases (by omega : d.toNat < 48 ∨ 57 < d.toNat) with hdd | hdd
          all_goals
            clear hdig
            go_wp2
            go_ret3
            exact ⟨by rw [HV.out]; rfl, Drew.refl _⟩
        subst hd118
        obtain ⟨j, rfl⟩ : ∃ j, k = j + 1 := ⟨k - 1, by omega⟩
        have hlt2 : j < s.size := by omega
        have hz4 : 0 ≤ z - 2 := by omega
        have hz5 : z - 2 < (s.size : Int) := by omega
        have hz6 : z - 2 ≤ (s.size : Int) := by omega
        have hn2 : (z - 2).toNat = j := by omega
        obtain ⟨c, hc⟩ : ∃ c : UInt8, s[j]'hlt2 = c := ⟨_, rfl⟩
        have HC := Lib.hid (byte_at' s j hlt2 hc)
        by_cases hc46 : c = 46
        case neg =>
          have e1 : ((c.toNat : Int) != 46) = true := by rw [bne, show ((c.toNat : Int) == 46) = false from ne_nat hc46]; rfl
          have e1' : ((c.toNat : Int) == 46) = false := ne_nat hc46
          have HV := Lib.hid (splitVal_bad (s := s) (gopI_no (l := s.data.toList) (k := j + 1 + 1) (fun h => by
            have := (two_iff.1 h).1; rw [HC.out] at this; exact hc46 (Option.some.inj this))))
          clear hz hg hk HD HC hk0 hc46 hdig
          go_wp2
          go_ret3
          exact ⟨by rw [HV.out]; rfl, Drew.refl _⟩
        subst hc46
        have HT := Lib.hid (two_iff.2 ⟨HC.out, HD.out⟩ : Pth.two s.data.toList (j + 2) 46 118)
        obtain ⟨pm, hpm⟩ : ∃ pm, s.extract j s.size = pm := ⟨_, rfl⟩
        have hpz : pm.size = s.size - j := by rw [← hpm]; exact tail_size s j
        by_cases hend : j + 2 = s.size
        · have hp2 : ¬ 2 < pm.size := by omega
          have hp2' : (pm.size : Int) ≤ 2 := by omega
          have HV := Lib.hid (splitVal_bad (s := s) (b := false) (x := Pth.gopI s.data.toList (j + 1 + 1)) (by
            unfold Pth.gopI; rw [if_neg (fun h => h HT.out), if_pos (.inl (by rw [← Lib.size_eq]; omega))]))
          clear hz hg hk HD HC hk0 hdig HT hpz hend
          go_wp2
          try (go_quiet (fail); go_wp2)
          go_ret3
          exact ⟨by rw [HV.out]; rfl, by first | exact Drew.refl _ | exact ⟨_, rfl⟩⟩
        have hp2 : 2 < pm.size := by omega
        have hp2' : ¬ (pm.size : Int) ≤ 2 := by omega
        have hlt3 : j + 2 < s.size := by omega
        obtain ⟨x, hx⟩ : ∃ x : UInt8, s[j + 2]'hlt3 = x := ⟨_, rfl⟩
        have HX := Lib.hid (byte_at' s (j + 2) hlt3 hx)
        have hpx : pm[2]'hp2 = x := by subst hpm; exact tail_at hp2 HX.out
        have HKL : Hid (j + 1 + 1 ≠ s.data.toList.length) := by show _ ≠ _; rw [← Lib.size_eq]; omega
        by_cases hx48 : x = 48
        case neg =>
          have e2 : ((x.toNat : Int) == 48) = false := ne_nat hx48
          have HV := Lib.hid (splitVal_good (s := s) (x := Pth.gopI s.data.toList (j + 1 + 1)) (j := j) (by
            unfold Pth.gopI; rw [if_neg (fun h => h HT.out), if_neg (by
              rintro (h | ⟨h, _⟩)
              · exact HKL.out h
              · have h : s.data.toList[j + 2]? = some 48 := h
                rw [HX.out] at h; exact hx48 (Option.some.inj h))]; rfl))
          rw [hpm] at HV
          clear hz hg hk HD HC hk0 hdig HT hpz hend hx HX HKL hx48
          go_wp2
          try (go_quiet (fail); go_wp2)
          go_ret3
          exact ⟨by rw [HV.out]; rfl, by first | exact Drew.refl _ | exact ⟨_, rfl⟩⟩
        subst hx48
        by_cases h3 : j + 3 = s.size
        · have hl : pm.toList = [46, 118, 48] := by
            rw [Lib.toList_data, ← hpm, Lib.extract_to_end]
            have h0 := HC.out; have h1 := HD.out; have h2 := HX.out
            obtain ⟨a0, b0⟩ := List.getElem?_eq_some_iff.1 h0
            obtain ⟨a1, b1⟩ := List.getElem?_eq_some_iff.1 h1
            obtain ⟨a2, b2⟩ := List.getElem?_eq_some_iff.1 h2
            rw [List.drop_eq_getElem_cons a0, List.drop_eq_getElem_cons a1, List.drop_eq_getElem_cons a2, b0, b1, b2, List.drop_eq_nil_of_le (by rw [← Lib.size_eq]; omega)]
          have e3 : (pm.toList == ([46, 118, 48] : List UInt8)) = true := by rw [hl]; rfl
          have e3' : (pm.toList != ([46, 118, 48] : List UInt8)) = false := by rw [bne, e3]; rfl
          have HV := Lib.hid (splitVal_good (s := s) (x := Pth.gopI s.data.toList (j + 1 + 1)) (j := j) (by
            unfold Pth.gopI; rw [if_neg (fun h => h HT.out), if_neg (by
              rintro (h | ⟨_, h⟩)
              · exact HKL.out h
              · rw [← Lib.size_eq] at h; omega)]; rfl))
          rw [hpm] at HV
          clear hz hg hk HD HC hk0 hdig HT hpz hend hx HX HKL hl h3
          go_wp2
          try (go_quiet (fail); go_wp2)
          go_ret3
          exact ⟨by rw [HV.out]; rfl, by first | exact Drew.refl _ | exact ⟨_, rfl⟩⟩
        · have hl : pm.toList ≠ [46, 118, 48] := fun e => by
            have := congrArg List.length e
            rw [Lib.toList_data, ← Lib.size_eq] at this
            simp at this; omega
          have e3 : (pm.toList == ([46, 118, 48] : List UInt8)) = false := beq_eq_false_iff_ne.2 hl
          have e3' : (pm.toList != ([46, 118, 48] : List UInt8)) = true := by rw [bne, e3]; rfl
          have HV := Lib.hid (splitVal_bad (s := s) (b := false) (x := Pth.gopI s.data.toList (j + 1 + 1)) (by
            unfold Pth.gopI; rw [if_neg (fun h => h HT.out), if_pos (.inr ⟨HX.out, by rw [← Lib.size_eq]; omega⟩)]))
          clear hz hg hk HD HC hk0 hdig HT hpz hend hx HX HKL hl h3
          go_wp2
          try (go_quiet (fail); go_wp2)
          go_ret3
          exact ⟨by rw [HV.out]; rfl, by first | exact Drew.refl _ | exact ⟨_, rfl⟩⟩

set_option maxRecDepth 100000 in
set_option maxHeartbeats 8000000 in
theorem SplitPathVersion_calls (s : ByteArray) (w : World) (hs : s.size ≤ 140737488351232) :
    Calls Tryd.prog 48 #[.string s] w fun e w' => e = .returned (splitVal (Pth.splitI s.data.toList)) ∧ Drew w w' := by
  obtain ⟨b, hb⟩ : ∃ b, Pth.gop.isPrefixOf s.data.toList = b := ⟨_, rfl⟩
  have CP : Hid (∀ w, Calls Tryd.prog 68 #[.string s, .string ⟨#[103, 111, 112, 107, 103, 46, 105, 110, 47]⟩] w fun e w' => e = .returned (.bool b) ∧ w = w') := fun w =>
    (strings_HasPrefix s ⟨#[103, 111, 112, 107, 103, 46, 105, 110, 47]⟩ w).mono fun e w' ⟨p, q⟩ => ⟨by rw [p]; exact ret_bool hb, q.symm⟩
  unfold Pth.splitI
  rw [hb]
  cases b with
  | true =>
    rw [if_pos rfl]
    have CG := Lib.hid fun w => splitGopkgIn_calls s w hs hb
    clear hb
    generalize hx : Pth.gopI s.data.toList (Pth.bk Ver.dig s.data.toList (Pth.endOf s.data.toList)) = x at *
    obtain ⟨x1, x2, x3⟩ := x
    unfold splitVal at CG ⊢
    go_enter Tryd.func48, Tryd.ntmps48
    go_wp2_with fail
    refine (CP.out _).mono ?_
    rintro e w' ⟨rfl, rfl⟩
    go_wp2_with fail
    refine (CG.out _).mono ?_
    rintro e w' ⟨rfl, hd⟩
    go_wp2
    go_ret3
    exact ⟨rfl, hd⟩
  | false =>
    rw [if_neg (by simp)]
    obtain ⟨R, hR⟩ : ∃ R, Pth.bk Pth.dd s.data.toList s.data.toList.length = R := ⟨_, rfl⟩
    rw [hR]
    have HB0 : Hid (R = Pth.bk Pth.dd s.data.toList s.size) := by show _ = _; rw [Lib.size_eq]; exact hR.symm
    clear hR hb
    go_enter Tryd.func48, Tryd.ntmps48
    go_wp2_with fail
    refine (CP.out _).mono ?_
    rintro e w' ⟨rfl, rfl⟩
    go_wp2
    go_loopg [5, 6] (s.size + 1) (fun g v4 v5 wr => ∃ (k : Nat) (z : Int) (t : Bool), v4 = .int .i64 z ∧ z = k ∧ v5 = .bool t ∧ k < g ∧ k ≤ s.size ∧ w = wr ∧ Hid (R = Pth.bk Pth.dd s.data.toList k) ∧ Hid (t = (s.data.toList.drop k).contains 46))
    case atStart => exact ⟨s.size, _, false, rfl, rfl, rfl, by omega, by omega, rfl, HB0, by show _ = _; rw [List.drop_eq_nil_of_le (by rw [← Lib.size_eq]; omega)]; rfl⟩
    case round =>
      clear HB0 CP
      obtain ⟨k, z, t, rfl, hz, rfl, hg, hk, rfl, HB, HDOT⟩ := hrel
      cases k with
      | zero =>
        have hz0 : ¬ 0 < z := by omega
        have hz1 : z ≤ 1 := by omega
        obtain rfl : R = 0 := HB.out
        have HV := Lib.hid (splitVal_bad (plainV_no (l := s.data.toList) (k := 0) (.inr (not_two (by omega)))))
        clear HB hz hg hk HDOT
        go_wp2
        go_ret3
        exact ⟨by rw [HV.out]; rfl, Drew.refl _⟩
      | succ k =>
        have hlt : k < s.size := by omega
        have hz0 : 0 < z := by omega
        have hz1 : 0 ≤ z - 1 := by omega
        have hz2 : z - 1 < (s.size : Int) := by omega
        have hn1 : (z - 1).toNat = k := by omega
        obtain ⟨d, hd⟩ : ∃ d : UInt8, s[k]'hlt = d := ⟨_, rfl⟩
        have HD := Lib.hid (byte_at' s k hlt hd)
        have HDR : Hid (s.data.toList.drop k = d :: s.data.toList.drop (k + 1)) := by
          show _ = _
          obtain ⟨q1, q2⟩ := List.getElem?_eq_some_iff.1 HD.out
          rw [List.drop_eq_getElem_cons q1, q2]
        by_cases hdot : d = 46
        · subst hdot
          have HN : Hid (R = Pth.bk Pth.dd s.data.toList k) := HB.out.trans (Pth.bk_yes HD.out (by decide))
          have HT : Hid (true = (s.data.toList.drop k).contains 46) := by show _ = _; rw [HDR.out, List.contains_cons]; rfl
          have HZ : Hid (z - 1 = (k : Int)) := by show _ = _; omega
          clear HB hz HD HDOT HDR
          go_wp2
          go_roundg (gk - 1)
          case measure => omega
          case rel => exact ⟨k, z - 1, true, rfl, HZ.out, rfl, by omega, by omega, rfl, HN, HT⟩
        have e46 : ((d.toNat : Int) == 46) = false := ne_nat hdot
        by_cases hdig : 48 ≤ d.toNat ∧ d.toNat ≤ 57
        · have HN : Hid (R = Pth.bk Pth.dd s.data.toList k) := HB.out.trans (Pth.bk_yes HD.out (by unfold Pth.dd Ver.dig; rw [decide_eq_true hdig]; rfl))
          have HT : Hid (t = (s.data.toList.drop k).contains 46) := by
            show _ = _
            rw [HDR.out, List.contains_cons, beq_eq_false_iff_ne.2 (fun h => hdot h.symm), Bool.false_or]; exact HDOT.out
          have HZ : Hid (z - 1 = (k : Int)) := by show _ = _; omega
          obtain ⟨d1, d2⟩ := hdig
          clear HB hz HD HDOT HDR hdot
          go_wp2
          go_roundg (gk - 1)
          case measure => omega
          case rel => exact ⟨k, z - 1, t, rfl, HZ.out, rfl, by omega, by omega, rfl, HN, HT⟩
        obtain rfl : R = k + 1 := HB.out.trans (Pth.bk_no HD.out (by unfold Pth.dd Ver.dig; rw [decide_eq_false hdig, beq_eq_false_iff_ne.2 hdot]; rfl))
        clear HB HDR hdot
        have dways : d.toNat < 48 ∨ 57 < d.toNat := by omega
        clear hdig
        by_cases hk0 : k = 0
        · have hz3 : z ≤ 1 := by omega
          have HV := Lib.hid (splitVal_bad (s := s) (plainV_no (l := s.data.toList) (k := k + 1) (.inr (not_two (by omega)))))
          clear hz hg hk HD hk0 HDOT
          rcases dways with hdd | hdd
          all_goals
            go_wp2
            go_ret3
            exact ⟨by rw [HV.out]; rfl, Drew.refl _⟩
        have hz3 : ¬ z ≤ 1 := by omega
        by_cases hend : k + 1 = s.size
        · have e2 : (z == (s.size : Int)) = true := beq_iff_eq.2 (by omega)
          have HV := Lib.hid (splitVal_bad (s := s) (plainV_no (l := s.data.toList) (k := k + 1) (.inl (by rw [← Lib.size_eq]; exact hend))))
          clear hz hg hk HD hk0 HDOT hend
          rcases dways with hdd | hdd
          all_goals
            go_wp2
            go_ret3
            exact ⟨by rw [HV.out]; rfl, Drew.refl _⟩
        have e2 : (z == (s.size : Int)) = false := beq_eq_false_iff_ne.2 (by omega)
        by_cases hd118 : d = 118
        case neg =>
          have e1 : ((d.toNat : Int) != 118) = true := by rw [bne, show ((d.toNat : Int) == 118) = false from ne_nat hd118]; rfl
          have e1' : ((d.toNat : Int) == 118) = false := ne_nat hd118
          have HV := Lib.hid (splitVal_bad (s := s) (plainV_no (l := s.data.toList) (k := k + 1) (.inr (fun h => by
            have := h.2.2; rw [Nat.add_sub_cancel, HD.out] at this; exact hd118 (Option.some.inj this)))))
          clear hz hg hk HD hk0 hd118 hend HDOT
          rcases dways with hdd | hdd
          all_goals
            go_wp2
            go_ret3
            exact ⟨by rw [HV.out]; rfl, Drew.refl _⟩
        subst hd118
        clear dways e46
        obtain ⟨j, rfl⟩ : ∃ j, k = j + 1 := ⟨k - 1, by omega⟩
        have hlt2 : j < s.size := by omega
        have hz4 : 0 ≤ z - 2 := by omega
        have hz5 : z - 2 < (s.size : Int) := by omega
        have hz6 : z - 2 ≤ (s.size : Int) := by omega
        have hn2 : (z - 2).toNat = j := by omega
        obtain ⟨c, hc⟩ : ∃ c : UInt8, s[j]'hlt2 = c := ⟨_, rfl⟩
        have HC := Lib.hid (byte_at' s j hlt2 hc)
        by_cases hc47 : c = 47
        case neg =>
          have e1 : ((c.toNat : Int) != 47) = true := by rw [bne, show ((c.toNat : Int) == 47) = false from ne_nat hc47]; rfl
          have e1' : ((c.toNat : Int) == 47) = false := ne_nat hc47
          have HV := Lib.hid (splitVal_bad (s := s) (plainV_no (l := s.data.toList) (k := j + 1 + 1) (.inr (fun h => by
            have := (two_iff.1 h).1; rw [HC.out] at this; exact hc47 (Option.some.inj this)))))
          clear hz hg hk HD HC hk0 hc47 hend HDOT
          go_wp2
          go_ret3
          exact ⟨by rw [HV.out]; rfl, Drew.refl _⟩
        subst hc47
        have HT : Hid (¬ (j + 1 + 1 = s.data.toList.length ∨ ¬ Pth.two s.data.toList (j + 1 + 1) 47 118)) := by
          show ¬ _
          rintro (h | h)
          · rw [← Lib.size_eq] at h; exact hend h
          · exact h (two_iff.2 ⟨HC.out, HD.out⟩)
        obtain ⟨pm, hpm⟩ : ∃ pm, s.extract j s.size = pm := ⟨_, rfl⟩
        have hpz : pm.size = s.size - j := by rw [← hpm]; exact tail_size s j
        have hp2 : 2 < pm.size := by omega
        have hp2' : ¬ (pm.size : Int) ≤ 2 := by omega
        have hlt3 : j + 2 < s.size := by omega
        obtain ⟨x, hx⟩ : ∃ x : UInt8, s[j + 2]'hlt3 = x := ⟨_, rfl⟩
        have HX := Lib.hid (byte_at' s (j + 2) hlt3 hx)
        have hpx : pm[2]'hp2 = x := by subst hpm; exact tail_at hp2 HX.out
        have HDL : Hid (pm.toList = 47 :: 118 :: s.data.toList.drop (j + 2)) := by
          show _ = _
          rw [Lib.toList_data, ← hpm, Lib.extract_to_end]
          obtain ⟨a0, b0⟩ := List.getElem?_eq_some_iff.1 HC.out
          obtain ⟨a1, b1⟩ := List.getElem?_eq_some_iff.1 HD.out
          rw [List.drop_eq_getElem_cons a0, List.drop_eq_getElem_cons a1, b0, b1]
        have fin_bad : (t = true ∨ x = 48 ∨ s.data.toList.drop (j + 2) = [49]) → Hid (splitVal (Pth.plainV s.data.toList (j + 1 + 1)) = .tuple #[.string s, .string ⟨#[]⟩, .bool false]) := fun h => splitVal_bad (by
          unfold Pth.plainV
          rw [if_neg HT.out, if_pos]
          rcases h with h | h | h
          · exact .inl (by rw [← h]; exact HDOT.out.symm)
          · exact .inr (.inl (by show s.data.toList[j + 2]? = some 48; rw [HX.out, h]))
          · exact .inr (.inr h))
        have fin_good : ¬ (t = true ∨ x = 48 ∨ s.data.toList.drop (j + 2) = [49]) → Hid (splitVal (Pth.plainV s.data.toList (j + 1 + 1)) = .tuple #[.string (s.extract 0 j), .string pm, .bool true]) := fun h => by
          have := splitVal_good (s := s) (x := Pth.plainV s.data.toList (j + 1 + 1)) (j := j) (by
            unfold Pth.plainV
            rw [if_neg HT.out, if_neg]
            · rfl
            · rintro (h' | h' | h')
              · exact h (.inl (by rw [HDOT.out]; exact h'))
              · have h' : s.data.toList[j + 2]? = some 48 := h'
                rw [HX.out] at h'; exact h (.inr (.inl (Option.some.inj h')))
              · exact h (.inr (.inr h')))
          rw [hpm] at this; exact this
        by_cases ht : t = true
        · have HV := fin_bad (.inl ht)
          subst ht
          clear hz hg hk HD HC hk0 HT hpz hend hx HX HDOT HDL fin_bad fin_good
          go_wp2
          try (go_quiet (fail); go_wp2)
          go_ret3
          exact ⟨by rw [HV.out]; rfl, by first | exact Drew.refl _ | exact ⟨_, rfl⟩⟩
        obtain rfl : t = false := by simpa using ht
        by_cases hx48 : x = 48
        · have HV := fin_bad (.inr (.inl hx48))
          have e4 : ((x.toNat : Int) == 48) = true := by rw [hx48]; rfl
          clear hz hg hk HD HC hk0 HT hpz hend hx HX HDOT HDL fin_bad fin_good hx48
          go_wp2
          try (go_quiet (fail); go_wp2)
          go_ret3
          exact ⟨by rw [HV.out]; rfl, by first | exact Drew.refl _ | exact ⟨_, rfl⟩⟩
        have e4 : ((x.toNat : Int) == 48) = false := ne_nat hx48
        by_cases h49 : s.data.toList.drop (j + 2) = [49]
        · have HV := fin_bad (.inr (.inr h49))
          have e5 : (pm.toList == ([47, 118, 49] : List UInt8)) = true := by rw [HDL.out, h49]; rfl
          clear hz hg hk HD HC hk0 HT hpz hend hx HX HDOT HDL fin_bad fin_good hx48 h49 ht
          go_wp2
          try (go_quiet (fail); go_wp2)
          go_ret3
          exact ⟨by rw [HV.out]; rfl, by first | exact Drew.refl _ | exact ⟨_, rfl⟩⟩
        · have HV := fin_good (by rintro (h | h | h) <;> first | exact ht h | exact hx48 h | exact h49 h)
          have e5 : (pm.toList == ([47, 118, 49] : List UInt8)) = false := by
            rw [HDL.out, beq_eq_false_iff_ne]
            intro h; simp only [List.cons.injEq, true_and] at h; exact h49 h
          clear hz hg hk HD HC hk0 HT hpz hend hx HX HDOT HDL fin_bad fin_good hx48 h49 ht
          go_wp2
          try (go_quiet (fail); go_wp2)
          go_ret3
          exact ⟨by rw [HV.out]; rfl, by first | exact Drew.refl _ | exact ⟨_, rfl⟩⟩
end Go.Proofs.YtppnjkfeefmohaaDoor
