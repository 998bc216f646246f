/- Walks of the reference's part, figures and series. -/
import Derived.Test.YtppnjkfeefmohaaDoorSpA
namespace Go.Proofs.YtppnjkfeefmohaaDoor
open Go.RowKit Str Ver
set_option linter.unusedVariables false

theorem Cut_tell {s a b : ByteArray} {c : UInt8} {ci : Int} {m : Bool} (w : World) (hci : (c.toNat : Int) = ci) (hs : s.size ≤ 140737488351232) (h1 : s.data.toList.takeWhile (· != c) = a.data.toList)
    (h2 : (s.data.toList.dropWhile (· != c)).tail = b.data.toList) (h3 : (!(s.data.toList.dropWhile (· != c)).isEmpty) = m) :
    Calls Tryd.prog 14 #[.string s, .int .u8 ci] w fun e w' => e = .returned (.tuple #[.string a, .string b, .bool m]) ∧ Drew w w' :=
  (hci ▸ Cut_calls s c w hs).mono fun e w' ⟨p, q⟩ => ⟨by rw [p]; unfold cutV; rw [h1, h2, h3, B_of, B_of], q⟩

set_option maxHeartbeats 1000000 in
theorem part_calls (c : UInt8) (b : Bool) (h : idc c = b) (w : World) :
    Calls Tryd.prog 43 #[.int .u8 c.toNat] w fun e w' => e = .returned (.bool b) ∧ w = w' := by
  have hl := c.toNat_lt
  unfold idc at h
  cases b with
  | true =>
    rw [decide_eq_true_eq] at h
    have h45 : ((c.toNat : Int) == 45) = decide (c.toNat = 45) := by rw [Bool.eq_iff_iff, beq_iff_eq, decide_eq_true_eq]; omega
    have h45' : decide (c.toNat = 45) = true ∨ decide (c.toNat = 45) = false := by cases decide (c.toNat = 45) <;> simp
    rcases h with h | h | h | h
    all_goals
      rcases h45' with e | e <;> rw [e] at h45 <;> clear e
      all_goals
        go_enter Tryd.func43, Tryd.ntmps43
        go_wp2
        go_ret
        exact ⟨rfl, rfl⟩
  | false =>
    rw [decide_eq_false_iff_not] at h
    have h45 : ((c.toNat : Int) == 45) = false := beq_eq_false_iff_ne.2 (by omega)
    rcases (by omega : c.toNat < 45 ∨ (45 < c.toNat ∧ c.toNat < 48) ∨ (57 < c.toNat ∧ c.toNat < 65) ∨ (90 < c.toNat ∧ c.toNat < 97) ∨ 122 < c.toNat) with h' | h' | h' | h' | h'
    all_goals
      clear h
      go_enter Tryd.func43, Tryd.ntmps43
      go_wp2
      go_ret
      exact ⟨ret_bool (by first | rfl | (simp; omega)), rfl⟩

set_option maxHeartbeats 1000000 in
theorem figures_calls (s : ByteArray) (b : Bool) (h : figs s.data.toList = b) (w : World) (hs : s.size ≤ 140737488351232) :
    Calls Tryd.prog 42 #[.string s] w fun e w' => e = .returned (.bool b) ∧ w = w' := by
  have HB := Lib.hid h
  clear h
  go_enter Tryd.func42, Tryd.ntmps42
  go_wp2
  go_loopg [3, 6] (s.size + 1) (fun g v3 v wr => ∃ k : Nat, v = .int .i64 k ∧ s.size < k + g ∧ w = wr ∧ Scan dig s.data.toList k)
  case atStart => exact ⟨0, rfl, by omega, rfl, Scan.zero _ _⟩
  case round =>
    obtain ⟨k, rfl, hg, rfl, HS⟩ := hrel
    have hk : k ≤ s.size := by have := HS.1; rw [← Lib.size_eq] at this; exact this
    by_cases hlt : k < s.size
    · obtain ⟨d, hd⟩ : ∃ d : UInt8, s[k]'hlt = d := ⟨_, rfl⟩
      have HD := Lib.hid (byte_at' s k hlt hd)
      by_cases hx : dig d = true
      · have hx' := hx
        unfold dig at hx'
        rw [decide_eq_true_eq] at hx'
        obtain ⟨hx1, hx2⟩ := hx'
        have SN := HS.next HD.out hx
        clear HB HD hx
        go_wp2
        go_roundg (gk - 1)
        case measure => omega
        case rel => exact ⟨k + 1, by go_num, by omega, rfl, SN⟩
      · have e := scan_all HS (fun x hx2 => by rw [HD.out] at hx2; cases hx2; simpa using hx)
        rw [decide_eq_false (by rw [← Lib.size_eq]; omega)] at e
        have hb := HB.out
        unfold figs at hb
        rw [e, Bool.and_false] at hb
        subst hb
        have hx' : ¬ (48 ≤ d.toNat ∧ d.toNat ≤ 57) := by unfold dig at hx; simpa using hx
        rcases (by omega : d.toNat < 48 ∨ 57 < d.toNat) with hx1 | hx1
        all_goals
          clear HB HD hg hx hx' e
          go_wp2
          go_ret
          exact ⟨rfl, rfl⟩
    · have e := scan_all HS (fun x hx => by rw [byte_none s k hlt] at hx; cases hx)
      rw [decide_eq_true (by rw [← Lib.size_eq]; omega)] at e
      have hb := HB.out
      unfold figs at hb
      rw [e, Bool.and_true] at hb
      by_cases h0 : s.size = 0
      · obtain rfl : false = b := by
          rw [← hb, size_zero h0, B_data]; rfl
        clear HB hg e HS hb
        go_wp2
        go_ret
        exact ⟨ret_bool (by first | rfl | (simp; done) | (simp; omega)), rfl⟩
      · obtain rfl : true = b := by
          rw [← hb]
          cases hl : s.data.toList with
          | nil => exact absurd (by rw [Lib.size_eq, hl]; rfl) h0
          | cons c t => rfl
        clear HB hg e HS hb
        go_wp2
        go_ret
        exact ⟨ret_bool (by first | rfl | (simp; done) | (simp; omega)), rfl⟩

theorem series_step (strict : Bool) (l : List UInt8) : series strict l =
    (okId strict (l.takeWhile (· != 46)) && (if (l.dropWhile (· != 46)).isEmpty = true then true else series strict (l.dropWhile (· != 46)).tail)) := by
  unfold series
  rw [split_cons_eq, List.all_cons]
  congr 1
  cases l.dropWhile (· != 46) <;> rfl

/-- a number with noughts ahead, where these are not let -/
def lead (strict : Bool) (a : List UInt8) : Bool := strict && a.all dig && decide (1 < a.length) && a.head? == some 48

set_option maxHeartbeats 4000000 in
theorem series_calls (s : ByteArray) (strict : Bool) (b : Bool) (h : series strict s.data.toList = b) (w : World) (hs : s.size ≤ 140737488351232) :
    Calls Tryd.prog 29 #[.string s, .bool strict] w fun e w' => e = .returned (.bool b) ∧ Drew w w' := by
  have HB := Lib.hid h
  clear h
  go_enter Tryd.func29, Tryd.ntmps29
  go_wp2
  go_loopg [0, 5, 6, 7, 8] (s.size + 1) (fun g v0 v5 v6 v7 v8 wr => ∃ x : ByteArray, v0 = .string x ∧ x.size < g ∧ x.size ≤ 140737488351232 ∧ Drew w wr ∧ Hid (series strict x.data.toList = b))
  case atStart => exact ⟨s, rfl, by omega, hs, Drew.refl _, HB⟩
  case round =>
    obtain ⟨x, rfl, hg, hx, ⟨n, rfl⟩, HX⟩ := hrel
    clear HB hs
    obtain ⟨A, hA⟩ : ∃ A : ByteArray, x.data.toList.takeWhile (· != 46) = A.data.toList := ⟨B _, (B_data _).symm⟩
    obtain ⟨C, hC⟩ : ∃ C : ByteArray, (x.data.toList.dropWhile (· != 46)).tail = C.data.toList := ⟨B _, (B_data _).symm⟩
    obtain ⟨m, hm⟩ : ∃ m, (!(x.data.toList.dropWhile (· != 46)).isEmpty) = m := ⟨_, rfl⟩
    have hAs : A.size ≤ 140737488351232 := by
      have := (List.takeWhile_sublist (· != 46) (l := x.data.toList)).length_le
      rw [hA, ← Lib.size_eq, ← Lib.size_eq] at this; omega
    have hCs : C.size ≤ 140737488351232 := by
      have := (List.dropWhile_sublist (· != 46) (l := x.data.toList)).length_le
      have h2 := congrArg List.length hC
      rw [List.length_tail, ← Lib.size_eq] at h2
      rw [← Lib.size_eq] at this; omega
    have hCx : m = true → C.size < x.size := by
      intro e
      have := (List.dropWhile_sublist (· != 46) (l := x.data.toList)).length_le
      have h2 := congrArg List.length hC
      rw [List.length_tail, ← Lib.size_eq] at h2
      rw [← Lib.size_eq] at this
      rw [e] at hm
      cases hd : x.data.toList.dropWhile (· != 46) with
      | nil => rw [hd] at hm; simp at hm
      | cons c t => rw [hd] at this h2; simp at this h2; omega
    have HS : Hid (b = (okId strict A.data.toList && (if m = false then true else series strict C.data.toList))) := by
      show _ = _
      rw [← HX.out, series_step, hA, hC, ← hm]
      cases (x.data.toList.dropWhile (· != 46)).isEmpty <;> rfl
    have HC := Lib.hid hCx
    have CC : ∀ w, Calls Tryd.prog 14 #[.string x, .int .u8 46] w fun e w' => e = .returned (.tuple #[.string A, .string C, .bool m]) ∧ Drew w w' := fun w => Cut_tell w rfl hx hA hC hm
    have DC := Lib.hid CC
    clear hCx HX hA hC hm CC
    go_wp2_with fail
    refine (DC.out _).mono ?_
    rintro e w' ⟨rfl, n1, rfl⟩
    by_cases h0 : A.size = 0
    · have hb0 : ((A.size : Int) == 0) = true := by rw [beq_iff_eq]; omega
      obtain rfl : false = b := by rw [HS.out, size_zero h0, B_data]; rfl
      clear HS hg h0
      go_wp2
      go_ret
      exact ⟨rfl, ⟨_, rfl⟩⟩
    have hp : 0 < A.size := by omega
    have hb0 : ((A.size : Int) == 0) = false := by rw [beq_eq_false_iff_ne]; omega
    have hne := list_of_size hp
    have HE : Hid (okId strict A.data.toList = (A.data.toList.all idc && !lead strict A.data.toList)) := by
      show _ = _
      unfold okId lead
      cases hl : A.data.toList with
      | nil => exact absurd hl hne
      | cons c t => rfl
    obtain ⟨c0, hc0⟩ : ∃ c0 : UInt8, A[0]'hp = c0 := ⟨_, rfl⟩
    have H0 := Lib.hid (head_at (byte_at' A 0 hp hc0))
    have HFG := Lib.hid (figs_of hne)
    have HSZ := Lib.hid (Lib.size_eq A)
    -- what is behind the first test, if it fails
    have inner : True := trivial
    cases hld : lead strict A.data.toList with
    | true =>
      have hb1 := hld
      unfold lead at hb1
      rw [Bool.and_eq_true, Bool.and_eq_true, Bool.and_eq_true, decide_eq_true_eq, ← Lib.size_eq, beq_iff_eq, H0.out] at hb1
      obtain ⟨⟨⟨rfl, hd⟩, h1⟩, h48⟩ := hb1
      obtain rfl : c0 = 48 := Option.some.inj h48
      have h48' : ((((48 : UInt8).toNat : Nat) : Int) == 48) = true := rfl
      have HF : Hid (figs A.data.toList = true) := HFG.out.trans hd
      obtain rfl : false = b := by rw [HS.out, HE.out, hld]; simp
      clear HS HE HFG H0 HSZ hld hd h48 hne hg HC DC
      go_wp2_with (first | (go_at_call 42; refine (figures_calls _ _ HF.out _ hAs).mono ?_; rintro e w' ⟨rfl, rfl⟩))
      go_ret
      exact ⟨rfl, ⟨_, rfl⟩⟩
    | false =>
      have HS2 : Hid (b = (A.data.toList.all idc && (if m = false then true else series strict C.data.toList))) := by show _ = _; rw [HS.out, HE.out, hld]; simp
      -- the ways on which the first test fails
      have ways : strict = false ∨ (strict = true ∧ figs A.data.toList = false) ∨ (strict = true ∧ figs A.data.toList = true ∧ ¬ 1 < A.size) ∨ (strict = true ∧ figs A.data.toList = true ∧ 1 < A.size ∧ ((c0.toNat : Int) == 48) = false) := by
        cases strict with
        | false => exact .inl rfl
        | true =>
          right
          cases hf : figs A.data.toList with
          | false => exact .inl ⟨rfl, rfl⟩
          | true =>
            right
            by_cases h1 : 1 < A.size
            · right
              refine ⟨rfl, rfl, h1, ?_⟩
              refine ne_nat (c := c0) (d := 48) fun e => ?_
              unfold lead at hld
              rw [← HFG.out, hf, ← Lib.size_eq, decide_eq_true h1, H0.out, e] at hld
              simp at hld
            · exact .inl ⟨rfl, rfl, h1⟩
      clear HS HE HFG H0 HSZ hld hne
      rcases ways with rfl | ⟨rfl, hf⟩ | ⟨rfl, hf, h1⟩ | ⟨rfl, hf, h1, h48⟩
      all_goals
        try (have HF := Lib.hid hf)
        try clear hf
        go_wp2_with (first | (go_at_call 42; refine (figures_calls _ _ HF.out _ hAs).mono ?_; rintro e w' ⟨rfl, rfl⟩))
        obtain ⟨g1, rfl⟩ : ∃ g1 : Nat, g1 = gk := ⟨_, rfl⟩
        go_loopg [8, 37] (A.size + 1) (fun g v8 v wr2 => ∃ k : Nat, v = .int .i64 k ∧ A.size < k + g ∧ Drew w wr2 ∧ Scan idc A.data.toList k)
        case atStart => exact ⟨0, rfl, by omega, ⟨_, rfl⟩, Scan.zero _ _⟩
        case round =>
          obtain ⟨k, rfl, hg2, ⟨n2, rfl⟩, HSc⟩ := hrel
          have hk : k ≤ A.size := by have := HSc.1; rw [← Lib.size_eq] at this; exact this
          by_cases hlt : k < A.size
          · obtain ⟨d, hd⟩ : ∃ d : UInt8, A[k]'hlt = d := ⟨_, rfl⟩
            have HD := Lib.hid (byte_at' A k hlt hd)
            cases hx : idc d with
            | true =>
              have HI := Lib.hid hx
              have SN := HSc.next HD.out hx
              clear HD hx
              go_wp2_with (first | (go_at_call 43; refine (part_calls d _ HI.out _).mono ?_; rintro e w' ⟨rfl, rfl⟩))
              go_roundg (gk - 1)
              case measure => omega
              case rel => exact ⟨k + 1, by go_num, by omega, ⟨_, rfl⟩, SN⟩
            | false =>
              have HI := Lib.hid hx
              have e := scan_all HSc (fun y hy => by rw [HD.out] at hy; cases hy; exact hx)
              rw [decide_eq_false (by rw [← Lib.size_eq]; omega)] at e
              have hbv := HS2.out
              rw [e, Bool.false_and] at hbv
              subst hbv
              clear HD hx e HSc hg2 hg
              go_wp2_with (first | (go_at_call 43; refine (part_calls d _ HI.out _).mono ?_; rintro e w' ⟨rfl, rfl⟩))
              go_ret
              exact ⟨rfl, ⟨_, rfl⟩⟩
          · have e := scan_all HSc (fun y hy => by rw [byte_none A k hlt] at hy; cases hy)
            rw [decide_eq_true (by rw [← Lib.size_eq]; omega)] at e
            have hbv := HS2.out
            rw [e, Bool.true_and] at hbv
            cases m with
            | false =>
              rw [if_pos rfl] at hbv
              subst hbv
              clear e HSc hg2 hg
              go_wp2
              go_ret
              exact ⟨rfl, ⟨_, rfl⟩⟩
            | true =>
              rw [if_neg (by simp)] at hbv
              have HN := Lib.hid hbv.symm
              have hCC := HC.out rfl
              clear e HSc hg2 hbv
              go_wp2
              go_roundg (g1 - 1)
              case measure => omega
              case rel => exact ⟨C, rfl, by omega, hCs, ⟨_, rfl⟩, HN⟩
end Go.Proofs.YtppnjkfeefmohaaDoor
