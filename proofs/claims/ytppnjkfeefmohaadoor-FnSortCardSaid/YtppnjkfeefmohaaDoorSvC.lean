/- Walks of package semver: isBadNum, parsePrerelease, parseBuild. -/
import Derived.Test.YtppnjkfeefmohaaDoorSvB
import Derived.Test.YtppnjkfeefmohaaDoorSer
namespace Go.Proofs.YtppnjkfeefmohaaDoor
open Go.RowKit Str Ver
set_option linter.unusedVariables false

theorem ne_nat' {c d : UInt8} (h : c ≠ d) : ((c.toNat : Int) != (d.toNat : Int)) = true := by
  rw [bne_iff_ne]; intro e; exact h (UInt8.toNat_inj.1 (by omega))

set_option maxHeartbeats 1000000 in
theorem isBadNum_calls (s : ByteArray) (b : Bool) (h : badNum s.data.toList = b) (w : World) (hs : s.size ≤ 140737488351232) :
    Calls Tryd.prog 84 #[.string s] w fun e w' => e = .returned (.bool b) ∧ w = w' := by
  have HB := Lib.hid h
  clear h
  go_enter Tryd.func84, Tryd.ntmps84
  go_wp2
  go_loopg [3] (s.size + 1) (fun g v wr => ∃ k : Nat, v = .int .i64 k ∧ s.size < k + g ∧ w = wr ∧ Scan dig s.data.toList k)
  case atStart => exact ⟨0, rfl, by omega, rfl, Scan.zero _ _⟩
  case round =>
    obtain ⟨k, rfl, hg, rfl, HS⟩ := hrel
    have hk : k ≤ s.size := by have := HS.1; rw [← Lib.size_eq] at this; exact this
    by_cases hlt : k < s.size
    · obtain ⟨d, hd⟩ : ∃ d : UInt8, s[k]'hlt = d := ⟨_, rfl⟩
      have HD := Lib.hid (byte_at' s k hlt hd)
      have hne : ((k : Int) == (s.size : Int)) = false := by rw [beq_eq_false_iff_ne]; omega
      by_cases hx : dig d = true
      · have hx' := hx
        unfold dig at hx'
        rw [decide_eq_true_eq] at hx'
        obtain ⟨hx1, hx2⟩ := hx'
        have SN := HS.next HD.out hx
        clear HB HD hx
        go_wp2
        go_roundg (gk - 1)
        case measure => omega
        case rel => exact ⟨k + 1, by go_num, by omega, rfl, SN⟩
      · have e := scan_all HS (fun x hx2 => by rw [HD.out] at hx2; cases hx2; simpa using hx)
        rw [decide_eq_false (by rw [← Lib.size_eq]; omega)] at e
        have hb := HB.out
        unfold badNum at hb
        rw [e, Bool.false_and, Bool.false_and] at hb
        subst hb
        have hx' : ¬ (48 ≤ d.toNat ∧ d.toNat ≤ 57) := by unfold dig at hx; simpa using hx
        rcases (by omega : d.toNat < 48 ∨ 57 < d.toNat) with hx1 | hx1
        all_goals
          clear HB HD hg hx hx' e
          go_wp2
          go_ret
          exact ⟨rfl, rfl⟩
    · have e := scan_all HS (fun x hx => by rw [byte_none s k hlt] at hx; cases hx)
      have hne : ((k : Int) == (s.size : Int)) = true := by rw [beq_iff_eq]; omega
      rw [decide_eq_true (by rw [← Lib.size_eq]; omega)] at e
      have hb := HB.out
      unfold badNum at hb
      rw [e, Bool.true_and, ← Lib.size_eq] at hb
      obtain rfl : k = s.size := by omega
      by_cases h1 : 1 < s.size
      · obtain ⟨c, hc⟩ : ∃ c : UInt8, s[0]'(by omega) = c := ⟨_, rfl⟩
        have H0 := byte_at' s 0 (by omega) hc
        rw [decide_eq_true h1, Bool.true_and, List.head?_eq_getElem?, H0] at hb
        by_cases hx : c = 48
        · have hx' : ((c.toNat : Int) == 48) = true := by rw [hx]; rfl
          rw [hx] at hb
          obtain rfl : true = b := by simpa using hb
          clear HB hg hx e H0 hb HS
          go_wp2
          go_ret
          exact ⟨rfl, rfl⟩
        · have hx' : ((c.toNat : Int) == 48) = false := ne_nat hx
          obtain rfl : false = b := by rw [← hb]; simpa using hx
          clear HB hg hx e H0 hb HS
          go_wp2
          go_ret
          exact ⟨rfl, rfl⟩
      · rw [decide_eq_false h1, Bool.false_and] at hb
        subst hb
        clear HB hg e HS
        go_wp2
        go_ret
        exact ⟨rfl, rfl⟩

def serV (strict : Bool) (q : UInt8 → Bool) (l : List UInt8) : Value :=
  if series strict ((l.drop 1).takeWhile q) = true then .tuple #[.string (B (l.take 1 ++ (l.drop 1).takeWhile q)), .string (B ((l.drop 1).dropWhile q)), .bool true]
  else .tuple #[.string (B []), .string (B []), .bool false]

theorem serV_bad {strict : Bool} {q : UInt8 → Bool} {l : List UInt8} (h : series strict ((l.drop 1).takeWhile q) = false) : serV strict q l = .tuple #[.string (B []), .string (B []), .bool false] := by
  unfold serV; rw [h]; rfl

theorem serV_good {strict : Bool} {q : UInt8 → Bool} {s : ByteArray} {i : Nat} (h : series strict ((s.data.toList.drop 1).takeWhile q) = true) (hl : 1 ≤ s.data.toList.length) (hi : 1 ≤ i)
    (h2 : (s.data.toList.drop 1).takeWhile q = (s.data.toList.drop 1).take (i - 1)) (h3 : (s.data.toList.drop 1).dropWhile q = s.data.toList.drop i) :
    serV strict q s.data.toList = .tuple #[.string (s.extract 0 i), .string (s.extract i s.size), .bool true] := by
  unfold serV; rw [if_pos h, h2, h3, cut_take, cut_drop]
  congr 4
  obtain ⟨j, rfl⟩ : ∃ j, i = 1 + j := ⟨i - 1, by omega⟩
  rw [List.take_add, Nat.add_sub_cancel_left]

set_option maxHeartbeats 2000000 in
theorem parsePrerelease_calls (s : ByteArray) (h0 : s.data.toList[0]? = some 45) (w : World) (hs : s.size ≤ 140737488351232) :
    Calls Tryd.prog 62 #[.string s] w fun e w' => e = .returned (serV true (· != 43) s.data.toList) ∧ Drew w w' := by
  have hp : 0 < s.size := by
    obtain ⟨hlt, _⟩ := List.getElem?_eq_some_iff.1 h0
    rw [← Lib.size_eq] at hlt; exact hlt
  have h1 := toList_ne hp
  have hc : s[0]'hp = (45 : UInt8) := Option.some.inj ((byte_at s 0 hp).symm.trans h0)
  have hb : ((((45 : UInt8).toNat : Nat) : Int) != 45) = false := rfl
  have hl1 : 1 ≤ s.data.toList.length := by rw [← Lib.size_eq]; omega
  clear h0
  go_enter Tryd.func62, Tryd.ntmps62
  go_wp2
  go_loopg [5, 6] (s.size + 1) (fun g vi vb wr => ∃ i b : Nat, vi = .int .i64 i ∧ vb = .int .i64 b ∧ s.size < i + g ∧ w = wr ∧ Ser true (· != 43) s.data.toList i b)
  case atStart => exact ⟨1, 1, rfl, rfl, by omega, rfl, Ser.start _ _ _⟩
  case round =>
    obtain ⟨i, b, rfl, rfl, hg, rfl, HS⟩ := hrel
    have hi : i ≤ s.size := by have := HS.le hl1; rw [← Lib.size_eq] at this; exact this
    have hbi := HS.hbi
    have hb1 := HS.hb
    by_cases hlt : i < s.size
    · obtain ⟨d, hd⟩ : ∃ d : UInt8, s[i]'hlt = d := ⟨_, rfl⟩
      have HD := Lib.hid (byte_at' s i hlt hd)
      by_cases hpl : d = 43
      · have hd43 : ((d.toNat : Int) != 43) = false := by rw [hpl]; rfl
        obtain ⟨E1, E2, E3⟩ := HS.done (fun x hx => by rw [HD.out] at hx; cases hx; rw [hpl]; rfl)
        by_cases hbe : b = i
        · have hbeq : ((b : Int) == (i : Int)) = true := by rw [beq_iff_eq]; omega
          have HV := Lib.hid (serV_bad (E1.trans (by rw [okId_strict HS.cur, show i - b = 0 from by omega]; rfl)))
          clear E1 E2 E3 hbe hg hpl HD
          go_wp2
          go_ret3
          exact ⟨by rw [HV.out]; rfl, Drew.refl _⟩
        · have hbeq : ((b : Int) == (i : Int)) = false := by rw [beq_eq_false_iff_ne]; omega
          have hne : ((s.data.toList.drop b).take (i - b)).isEmpty = false := by
            rw [List.isEmpty_eq_false_iff]; intro e
            have := congrArg List.length e
            rw [List.length_take, List.length_drop, ← Lib.size_eq] at this; simp at this; omega
          cases hbad : badNum ((s.data.toList.drop b).take (i - b)) with
          | true =>
            have HN : Hid (badNum (s.extract b i).data.toList = true) := by show _ = _; rw [Lib.extract_data]; exact hbad
            have HV := Lib.hid (serV_bad (E1.trans (by rw [okId_strict HS.cur, hbad]; simp)))
            clear E1 E2 E3 hbe hg hne hbad hpl HD
            go_wp2_with (first | (go_at_call 84; refine (isBadNum_calls _ _ HN.out _ (by rw [Lib.size_eq, Lib.extract_data, List.length_take, List.length_drop, ← Lib.size_eq]; omega)).mono ?_; rintro e w' ⟨rfl, rfl⟩))
            go_ret3
            exact ⟨by rw [HV.out]; rfl, Drew.refl _⟩
          | false =>
            have HN : Hid (badNum (s.extract b i).data.toList = false) := by show _ = _; rw [Lib.extract_data]; exact hbad
            have HV := Lib.hid (serV_good (E1.trans (by rw [okId_strict HS.cur, hbad, hne]; rfl)) hl1 (by omega) E2 E3)
            clear E1 E2 E3 hbe hg hne hbad hpl HD
            go_wp2_with (first | (go_at_call 84; refine (isBadNum_calls _ _ HN.out _ (by rw [Lib.size_eq, Lib.extract_data, List.length_take, List.length_drop, ← Lib.size_eq]; omega)).mono ?_; rintro e w' ⟨rfl, rfl⟩))
            go_quiet (fail)
            go_wp2
            go_ret3
            exact ⟨by rw [HV.out]; rfl, ⟨_, rfl⟩⟩
      · have hd43 : ((d.toNat : Int) != 43) = true := ne_nat' hpl
        by_cases hid : idc d = true
        · have HI := Lib.hid hid
          have SN := HS.id HD.out (by show (d != 43) = true; rw [bne_iff_ne]; exact hpl) hid
          have hd46 : ((d.toNat : Int) == 46) = false := ne_nat (idc_ne_dot hid)
          clear hid HD
          go_wp2_with (first | (go_at_call 83; refine (isIdentChar_calls d _ HI.out _).mono ?_; rintro e w' ⟨rfl, rfl⟩))
          go_roundg (gk - 1)
          case measure => omega
          case rel => exact ⟨i + 1, b, by go_num, rfl, by omega, rfl, SN⟩
        · have hid' : idc d = false := by simpa using hid
          have HI := Lib.hid hid'
          by_cases hdot : d = 46
          · have hd46 : ((d.toNat : Int) == 46) = true := by rw [hdot]; rfl
            have hd46' : ((d.toNat : Int) != 46) = false := by rw [hdot]; rfl
            have H46 : Hid (s.data.toList[i]? = some 46) := by show _ = _; rw [HD.out, hdot]
            by_cases hbe : b = i
            · have hbeq : ((b : Int) == (i : Int)) = true := by rw [beq_iff_eq]; omega
              have HV := Lib.hid (serV_bad (HS.dot_bad H46.out rfl (by rw [okId_strict HS.cur, show i - b = 0 from by omega]; rfl)))
              clear hid hid' hdot hbe HD H46 hg
              go_wp2_with (first | (go_at_call 83; refine (isIdentChar_calls d _ HI.out _).mono ?_; rintro e w' ⟨rfl, rfl⟩))
              go_ret3
              exact ⟨by rw [HV.out]; rfl, Drew.refl _⟩
            · have hbeq : ((b : Int) == (i : Int)) = false := by rw [beq_eq_false_iff_ne]; omega
              have hne : ((s.data.toList.drop b).take (i - b)).isEmpty = false := by
                rw [List.isEmpty_eq_false_iff]; intro e
                have := congrArg List.length e
                rw [List.length_take, List.length_drop, ← Lib.size_eq] at this; simp at this; omega
              cases hbad : badNum ((s.data.toList.drop b).take (i - b)) with
              | true =>
                have HN : Hid (badNum (s.extract b i).data.toList = true) := by show _ = _; rw [Lib.extract_data]; exact hbad
                have HV := Lib.hid (serV_bad (HS.dot_bad H46.out rfl (by rw [okId_strict HS.cur, hbad]; simp)))
                clear hid hid' hdot hbe HD H46 hg hne hbad
                go_wp2_with (first | (go_at_call 83; refine (isIdentChar_calls d _ HI.out _).mono ?_; rintro e w' ⟨rfl, rfl⟩) | (go_at_call 84; refine (isBadNum_calls _ _ HN.out _ (by rw [Lib.size_eq, Lib.extract_data, List.length_take, List.length_drop, ← Lib.size_eq]; omega)).mono ?_; rintro e w' ⟨rfl, rfl⟩))
                go_ret3
                exact ⟨by rw [HV.out]; rfl, Drew.refl _⟩
              | false =>
                have HN : Hid (badNum (s.extract b i).data.toList = false) := by show _ = _; rw [Lib.extract_data]; exact hbad
                have SN := HS.dot H46.out rfl (by rw [okId_strict HS.cur, hbad, hne]; rfl)
                clear hid hid' hdot hbe HD H46 hne hbad
                go_wp2_with (first | (go_at_call 83; refine (isIdentChar_calls d _ HI.out _).mono ?_; rintro e w' ⟨rfl, rfl⟩) | (go_at_call 84; refine (isBadNum_calls _ _ HN.out _ (by rw [Lib.size_eq, Lib.extract_data, List.length_take, List.length_drop, ← Lib.size_eq]; omega)).mono ?_; rintro e w' ⟨rfl, rfl⟩))
                go_roundg (gk - 1)
                case measure => omega
                case rel => exact ⟨i + 1, i + 1, by go_num, by go_num, by omega, rfl, SN⟩
          · have hd46 : ((d.toNat : Int) != 46) = true := ne_nat' hdot
            have HV := Lib.hid (serV_bad (HS.bad HD.out (by show (d != 43) = true; rw [bne_iff_ne]; exact hpl) hid' hdot))
            clear hid hid' hdot HD hg
            go_wp2_with (first | (go_at_call 83; refine (isIdentChar_calls d _ HI.out _).mono ?_; rintro e w' ⟨rfl, rfl⟩))
            go_ret3
            exact ⟨by rw [HV.out]; rfl, Drew.refl _⟩
    · skip
      obtain ⟨E1, E2, E3⟩ := HS.done (fun x hx => by rw [byte_none s i hlt] at hx; cases hx)
      by_cases hbe : b = i
      · have hbeq : ((b : Int) == (i : Int)) = true := by rw [beq_iff_eq]; omega
        have HV := Lib.hid (serV_bad (E1.trans (by rw [okId_strict HS.cur, show i - b = 0 from by omega]; rfl)))
        clear E1 E2 E3 hbe hg 
        go_wp2
        go_ret3
        exact ⟨by rw [HV.out]; rfl, Drew.refl _⟩
      · have hbeq : ((b : Int) == (i : Int)) = false := by rw [beq_eq_false_iff_ne]; omega
        have hne : ((s.data.toList.drop b).take (i - b)).isEmpty = false := by
          rw [List.isEmpty_eq_false_iff]; intro e
          have := congrArg List.length e
          rw [List.length_take, List.length_drop, ← Lib.size_eq] at this; simp at this; omega
        cases hbad : badNum ((s.data.toList.drop b).take (i - b)) with
        | true =>
          have HN : Hid (badNum (s.extract b i).data.toList = true) := by show _ = _; rw [Lib.extract_data]; exact hbad
          have HV := Lib.hid (serV_bad (E1.trans (by rw [okId_strict HS.cur, hbad]; simp)))
          clear E1 E2 E3 hbe hg hne hbad 
          go_wp2_with (first | (go_at_call 84; refine (isBadNum_calls _ _ HN.out _ (by rw [Lib.size_eq, Lib.extract_data, List.length_take, List.length_drop, ← Lib.size_eq]; omega)).mono ?_; rintro e w' ⟨rfl, rfl⟩))
          go_ret3
          exact ⟨by rw [HV.out]; rfl, Drew.refl _⟩
        | false =>
          have HN : Hid (badNum (s.extract b i).data.toList = false) := by show _ = _; rw [Lib.extract_data]; exact hbad
          have HV := Lib.hid (serV_good (E1.trans (by rw [okId_strict HS.cur, hbad, hne]; rfl)) hl1 (by omega) E2 E3)
          clear E1 E2 E3 hbe hg hne hbad 
          go_wp2_with (first | (go_at_call 84; refine (isBadNum_calls _ _ HN.out _ (by rw [Lib.size_eq, Lib.extract_data, List.length_take, List.length_drop, ← Lib.size_eq]; omega)).mono ?_; rintro e w' ⟨rfl, rfl⟩))
          go_quiet (fail)
          go_wp2
          go_ret3
          exact ⟨by rw [HV.out]; rfl, ⟨_, rfl⟩⟩

set_option maxHeartbeats 2000000 in
theorem parseBuild_calls (s : ByteArray) (h0 : s.data.toList[0]? = some 43) (w : World) (hs : s.size ≤ 140737488351232) :
    Calls Tryd.prog 63 #[.string s] w fun e w' => e = .returned (serV false (fun _ => true) s.data.toList) ∧ Drew w w' := by
  have hp : 0 < s.size := by
    obtain ⟨hlt, _⟩ := List.getElem?_eq_some_iff.1 h0
    rw [← Lib.size_eq] at hlt; exact hlt
  have h1 := toList_ne hp
  have hc : s[0]'hp = (43 : UInt8) := Option.some.inj ((byte_at s 0 hp).symm.trans h0)
  have hb : ((((43 : UInt8).toNat : Nat) : Int) != 43) = false := rfl
  have hl1 : 1 ≤ s.data.toList.length := by rw [← Lib.size_eq]; omega
  clear h0
  go_enter Tryd.func63, Tryd.ntmps63
  go_wp2
  go_loopg [5, 6] (s.size + 1) (fun g vi vb wr => ∃ i b : Nat, vi = .int .i64 i ∧ vb = .int .i64 b ∧ s.size < i + g ∧ w = wr ∧ Ser false (fun _ => true) s.data.toList i b)
  case atStart => exact ⟨1, 1, rfl, rfl, by omega, rfl, Ser.start _ _ _⟩
  case round =>
    obtain ⟨i, b, rfl, rfl, hg, rfl, HS⟩ := hrel
    have hi : i ≤ s.size := by have := HS.le hl1; rw [← Lib.size_eq] at this; exact this
    have hbi := HS.hbi
    have hb1 := HS.hb
    by_cases hlt : i < s.size
    · obtain ⟨d, hd⟩ : ∃ d : UInt8, s[i]'hlt = d := ⟨_, rfl⟩
      have HD := Lib.hid (byte_at' s i hlt hd)
      by_cases hid : idc d = true
      · have HI := Lib.hid hid
        have SN := HS.id HD.out rfl hid
        have hd46 : ((d.toNat : Int) == 46) = false := ne_nat (idc_ne_dot hid)
        clear hid HD
        go_wp2_with (first | (go_at_call 83; refine (isIdentChar_calls d _ HI.out _).mono ?_; rintro e w' ⟨rfl, rfl⟩))
        go_roundg (gk - 1)
        case measure => omega
        case rel => exact ⟨i + 1, b, by go_num, rfl, by omega, rfl, SN⟩
      · have hid' : idc d = false := by simpa using hid
        have HI := Lib.hid hid'
        by_cases hdot : d = 46
        · have hd46 : ((d.toNat : Int) == 46) = true := by rw [hdot]; rfl
          have hd46' : ((d.toNat : Int) != 46) = false := by rw [hdot]; rfl
          have H46 : Hid (s.data.toList[i]? = some 46) := by show _ = _; rw [HD.out, hdot]
          by_cases hbe : b = i
          · have hbeq : ((b : Int) == (i : Int)) = true := by rw [beq_iff_eq]; omega
            have HV := Lib.hid (serV_bad (HS.dot_bad H46.out rfl (by rw [okId_loose HS.cur, show i - b = 0 from by omega]; rfl)))
            clear hid hid' hdot hbe HD H46 hg
            go_wp2_with (first | (go_at_call 83; refine (isIdentChar_calls d _ HI.out _).mono ?_; rintro e w' ⟨rfl, rfl⟩))
            go_ret3
            exact ⟨by rw [HV.out]; rfl, Drew.refl _⟩
          · have hbeq : ((b : Int) == (i : Int)) = false := by rw [beq_eq_false_iff_ne]; omega
            have hne : ((s.data.toList.drop b).take (i - b)).isEmpty = false := by
              rw [List.isEmpty_eq_false_iff]; intro e
              have := congrArg List.length e
              rw [List.length_take, List.length_drop, ← Lib.size_eq] at this; simp at this; omega
            have SN := HS.dot H46.out rfl (by rw [okId_loose HS.cur, hne]; rfl)
            clear hid hid' hdot hbe HD H46 hne
            go_wp2_with (first | (go_at_call 83; refine (isIdentChar_calls d _ HI.out _).mono ?_; rintro e w' ⟨rfl, rfl⟩))
            go_roundg (gk - 1)
            case measure => omega
            case rel => exact ⟨i + 1, i + 1, by go_num, by go_num, by omega, rfl, SN⟩
        · have hd46 : ((d.toNat : Int) != 46) = true := ne_nat' hdot
          have HV := Lib.hid (serV_bad (HS.bad HD.out rfl hid' hdot))
          clear hid hid' hdot HD hg
          go_wp2_with (first | (go_at_call 83; refine (isIdentChar_calls d _ HI.out _).mono ?_; rintro e w' ⟨rfl, rfl⟩))
          go_ret3
          exact ⟨by rw [HV.out]; rfl, Drew.refl _⟩
    · skip
      obtain ⟨E1, E2, E3⟩ := HS.done (fun x hx => by rw [byte_none s i hlt] at hx; cases hx)
      by_cases hbe : b = i
      · have hbeq : ((b : Int) == (i : Int)) = true := by rw [beq_iff_eq]; omega
        have HV := Lib.hid (serV_bad (E1.trans (by rw [okId_loose HS.cur, show i - b = 0 from by omega]; rfl)))
        clear E1 E2 E3 hbe hg 
        go_wp2
        go_ret3
        exact ⟨by rw [HV.out]; rfl, Drew.refl _⟩
      · have hbeq : ((b : Int) == (i : Int)) = false := by rw [beq_eq_false_iff_ne]; omega
        have hne : ((s.data.toList.drop b).take (i - b)).isEmpty = false := by
          rw [List.isEmpty_eq_false_iff]; intro e
          have := congrArg List.length e
          rw [List.length_take, List.length_drop, ← Lib.size_eq] at this; simp at this; omega
        have HV := Lib.hid (serV_good (E1.trans (by rw [okId_loose HS.cur, hne]; rfl)) hl1 (by omega) E2 E3)
        clear E1 E2 E3 hbe hg hne 
        go_wp2
        go_quiet (fail)
        go_wp2
        go_ret3
        exact ⟨by rw [HV.out]; rfl, ⟨_, rfl⟩⟩

end Go.Proofs.YtppnjkfeefmohaaDoor
