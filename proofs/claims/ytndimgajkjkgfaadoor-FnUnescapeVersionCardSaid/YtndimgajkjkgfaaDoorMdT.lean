/- Walks of package module's EscapePath, UnescapePath, EscapeVersion and UnescapeVersion, and of the thin package's. -/
import Derived.Test.YtndimgajkjkgfaaDoorUn
import Derived.Test.YtndimgajkjkgfaaDoorSpK
import Derived.Test.YtndimgajkjkgfaaDoorCanon
namespace Go.Proofs.YtndimgajkjkgfaaDoor
open Go.RowKit Str
set_option linter.unusedVariables false

theorem mod_no33 {l : List UInt8} (h : modI l = true) : (33 : UInt8) ∉ l := by
  unfold modI at h
  rw [Bool.and_eq_true] at h
  have h := h.1
  unfold pathOk at h
  rw [Bool.and_eq_true] at h
  intro hm
  rcases Ver.split_mem 47 l 33 hm with e | ⟨x, hx, hc⟩
  · cases e
  · have h2 := List.all_eq_true.1 h.2 x hx
    rw [elem_split] at h2
    simp only [Bool.and_eq_true] at h2
    have := List.all_eq_true.1 h2.2.2.2.2.1 33 hc
    revert this; decide

set_option maxHeartbeats 4000000 in
theorem EscapePath_calls (s : ByteArray) (b : Bool) (hb : modI s.data.toList = b) (ha : Asc s.data.toList) (w : World) (hw : Bad w) (hs : s.size ≤ 1000) :
    Calls Tryd.prog 34 #[.string s] w fun e w' => (∃ x, e = .returned (.tuple #[.string (if b = true then B (Es.esc s.data.toList) else ⟨#[]⟩), x]) ∧ Err b x) ∧ Bl w w' := by
  have H := Lib.hid (CheckPath_calls s ha w hw (by omega))
  rw [hb] at H
  cases b with
  | true =>
    have CE := Lib.hid fun w => escapeString_calls s ha (mod_no33 hb) w hs
    clear hb ha hw
    generalize B (Es.esc s.data.toList) = E at *
    go_enter Tryd.func34, Tryd.ntmps34
    go_wp2_with fail
    refine H.out.mono ?_
    rintro e w1 ⟨⟨x, rfl, hx⟩, g1⟩
    obtain rfl : x = .nilIface := hx
    go_wp2_with fail
    refine (CE.out _).mono ?_
    rintro e w2 ⟨rfl, g2⟩
    go_wp2
    go_ret2
    exact ⟨⟨_, rfl, rfl⟩, (Bl.of_gr g1).trans g2⟩
  | false =>
    clear hb ha hw
    go_enter Tryd.func34, Tryd.ntmps34
    go_wp2_with fail
    refine H.out.mono ?_
    rintro e w1 ⟨⟨x, rfl, hx⟩, g1⟩
    obtain ⟨t, a, rfl⟩ : ∃ t a, x = .iface t (.pointer (some a)) := hx
    go_wp2
    go_ret2
    exact ⟨⟨_, rfl, _, _, rfl⟩, Bl.of_gr g1⟩

set_option maxHeartbeats 4000000 in
theorem UnescapePath_calls (s : ByteArray) (R : Option (List UInt8)) (hR : (Es.unesc false s.data.toList).bind (fun p => if modI p = true then some p else none) = R) (w : World) (hw : Bad w) (hs : s.size ≤ 1000) :
    Calls Tryd.prog 35 #[.string s] w fun e w' => (∃ x, e = .returned (.tuple #[.string (R.elim ⟨#[]⟩ B), x]) ∧ Err R.isSome x) ∧ Bl w w' := by
  have CU := Lib.hid fun w => unescapeString_calls s w hs
  have HB := Lib.hid hw
  clear hw
  cases hu : Es.unesc false s.data.toList with
  | none =>
    rw [hu] at hR CU
    obtain rfl : R = none := hR.symm
    have CU' : Hid (∀ w, Calls Tryd.prog 52 #[.string s] w fun e w' => e = .returned (.tuple #[.string ⟨#[]⟩, .bool false]) ∧ Bl w w') := CU.out
    clear hu hR CU
    go_enter Tryd.func35, Tryd.ntmps35
    go_wp2_with fail
    refine (CU'.out _).mono ?_
    rintro e w1 ⟨rfl, g1⟩
    go_wp2_with fail
    refine (errorsNew_calls _ _).mono ?_
    rintro e w2 ⟨⟨a, rfl⟩, g2⟩
    go_wp2
    go_ret2
    exact ⟨⟨_, rfl, _, _, rfl⟩, g1.gr g2⟩
  | some p =>
    rw [hu] at hR CU
    have CU' : Hid (∀ w, Calls Tryd.prog 52 #[.string s] w fun e w' => e = .returned (.tuple #[.string (B p), .bool true]) ∧ Bl w w') := CU.out
    obtain ⟨hl, ha⟩ := Es.unesc_good _ _ _ hu
    rw [← Lib.size_eq] at hl
    have HC : Hid (∀ w, Bad w → Calls Tryd.prog 36 #[.string (B p)] w fun e w' => (∃ x, e = .returned x ∧ Err (modI p) x) ∧ Gr w w') := fun w hw => by
      have := CheckPath_calls (B p) (by rw [B_data]; exact ha) w hw (by rw [B_size]; omega)
      rw [B_data] at this; exact this
    obtain ⟨b, hb⟩ : ∃ b, modI p = b := ⟨_, rfl⟩
    rw [hb] at HC
    have hR' : (if b = true then some p else none) = R := by rw [← hb]; exact hR
    clear hu hR CU hl ha hb
    cases b with
    | true =>
      obtain rfl : R = some p := hR'.symm
      show Calls Tryd.prog 35 #[.string s] w fun e w' => (∃ x, e = .returned (.tuple #[.string (B p), x]) ∧ Err true x) ∧ Bl w w'
      generalize B p = P at *
      clear hR'
      go_enter Tryd.func35, Tryd.ntmps35
      go_wp2_with fail
      refine (CU'.out _).mono ?_
      rintro e w1 ⟨rfl, g1⟩
      have hb1 := Lib.hid (HB.out.keepB g1)
      go_wp2_with fail
      refine (HC.out _ hb1.out).mono ?_
      rintro e w2 ⟨⟨x, rfl, hx⟩, g2⟩
      obtain rfl : x = .nilIface := hx
      go_wp2
      go_ret2
      exact ⟨⟨_, rfl, rfl⟩, g1.gr g2⟩
    | false =>
      obtain rfl : R = none := hR'.symm
      clear hR'
      generalize B p = P at *
      go_enter Tryd.func35, Tryd.ntmps35
      go_wp2_with fail
      refine (CU'.out _).mono ?_
      rintro e w1 ⟨rfl, g1⟩
      have hb1 := Lib.hid (HB.out.keepB g1)
      go_wp2_with fail
      refine (HC.out _ hb1.out).mono ?_
      rintro e w2 ⟨⟨x, rfl, hx⟩, g2⟩
      obtain ⟨t, a, rfl⟩ : ∃ t a, x = .iface t (.pointer (some a)) := hx
      go_wp2_with fail
      refine (errorsNew_calls _ _).mono ?_
      rintro e w3 ⟨⟨a, rfl⟩, g3⟩
      go_wp2
      go_ret2
      exact ⟨⟨_, rfl, _, _, rfl⟩, (g1.gr g2).gr g3⟩

/-- what EscapeVersion asks -/
def verOk (l : List UInt8) : Bool := elemOk 2 l && !l.contains 33

theorem idx_in (c : UInt8) (l : List UInt8) : (l.contains c = true → ∃ j : Nat, idxV [c] l = (j : Int)) ∧ (l.contains c = false → idxV [c] l = -1) := by
  unfold idxV
  rw [idx_one]
  constructor
  · intro h
    rw [if_pos (List.contains_iff_mem.1 h)]; exact ⟨_, rfl⟩
  · intro h
    rw [if_neg (fun hm => by rw [List.contains_iff_mem.2 hm] at h; cases h)]

set_option maxHeartbeats 4000000 in
theorem EscapeVersion_calls (s : ByteArray) (b : Bool) (hb : verOk s.data.toList = b) (ha : Asc s.data.toList) (w : World) (hw : Bad w) (hs : s.size ≤ 1000) :
    Calls Tryd.prog 50 #[.string s] w fun e w' => (∃ x, e = .returned (.tuple #[.string (if b = true then B (Es.esc s.data.toList) else ⟨#[]⟩), x]) ∧ Err b x) ∧ Bl w w' := by
  have H := Lib.hid (checkElem_calls s 2 (by omega) ha w hw (by omega))
  obtain ⟨q, hq⟩ : ∃ q, elemOk 2 s.data.toList = q := ⟨_, rfl⟩
  rw [hq] at H
  obtain ⟨i1, i2⟩ := idx_in 33 s.data.toList
  have CZ : Hid (∀ w, Calls Tryd.prog 56 #[.string s, .string ⟨#[33]⟩] w fun e w' => e = .returned (.int .i64 (idxV [33] s.data.toList)) ∧ w = w') := fun w => zzIndex_calls s ⟨#[33]⟩ w (by omega) (by decide) (by decide)
  have hbq : b = (q && !s.data.toList.contains 33) := by rw [← hb, ← hq]; rfl
  cases q with
  | false =>
    obtain rfl : b = false := hbq
    clear hb ha hw hq i1 i2 CZ
    go_enter Tryd.func50, Tryd.ntmps50
    go_wp2_with fail
    refine H.out.mono ?_
    rintro e w1 ⟨⟨x, rfl, hx⟩, g1⟩
    obtain ⟨t, a, rfl⟩ : ∃ t a, x = .iface t (.pointer (some a)) := hx
    go_wp2_with fail
    refine (errorsNew_calls _ _).mono ?_
    rintro e w2 ⟨⟨a, rfl⟩, g2⟩
    go_wp2
    go_ret2
    exact ⟨⟨_, rfl, _, _, rfl⟩, ((Bl.of_gr g1).gr g2).alloc _⟩
  | true =>
    cases hc : s.data.toList.contains 33 with
    | true =>
      rw [hc] at hbq
      obtain rfl : b = false := hbq
      obtain ⟨j, hj⟩ := i1 hc
      rw [hj] at CZ
      clear hb ha hw hq i1 i2 hc hj
      go_enter Tryd.func50, Tryd.ntmps50
      go_wp2_with fail
      refine H.out.mono ?_
      rintro e w1 ⟨⟨x, rfl, hx⟩, g1⟩
      obtain rfl : x = .nilIface := hx
      go_wp2_with fail
      refine (CZ.out _).mono ?_
      rintro e w' ⟨rfl, rfl⟩
      go_wp2_with fail
      refine (errorsNew_calls _ _).mono ?_
      rintro e w2 ⟨⟨a, rfl⟩, g2⟩
      go_wp2
      go_ret2
      exact ⟨⟨_, rfl, _, _, rfl⟩, ((Bl.of_gr g1).gr g2).alloc _⟩
    | false =>
      rw [hc] at hbq
      obtain rfl : b = true := hbq
      rw [i2 hc] at CZ
      have CE := Lib.hid fun w => escapeString_calls s ha (fun hm => by rw [List.contains_iff_mem.2 hm] at hc; cases hc) w hs
      clear hb ha hw hq i1 i2 hc
      generalize B (Es.esc s.data.toList) = E at *
      go_enter Tryd.func50, Tryd.ntmps50
      go_wp2_with fail
      refine H.out.mono ?_
      rintro e w1 ⟨⟨x, rfl, hx⟩, g1⟩
      obtain rfl : x = .nilIface := hx
      go_wp2_with fail
      refine (CZ.out _).mono ?_
      rintro e w' ⟨rfl, rfl⟩
      go_wp2_with fail
      refine (CE.out _).mono ?_
      rintro e w2 ⟨rfl, g2⟩
      go_wp2
      go_ret2
      exact ⟨⟨_, rfl, rfl⟩, (Bl.of_gr g1).trans g2⟩

set_option maxHeartbeats 4000000 in
theorem UnescapeVersion_calls (s : ByteArray) (R : Option (List UInt8)) (hR : (Es.unesc false s.data.toList).bind (fun p => if elemOk 2 p = true then some p else none) = R) (w : World) (hw : Bad w) (hs : s.size ≤ 1000) :
    Calls Tryd.prog 40 #[.string s] w fun e w' => (∃ x, e = .returned (.tuple #[.string (R.elim ⟨#[]⟩ B), x]) ∧ Err R.isSome x) ∧ Bl w w' := by
  have CU := Lib.hid fun w => unescapeString_calls s w hs
  have HB := Lib.hid hw
  clear hw
  cases hu : Es.unesc false s.data.toList with
  | none =>
    rw [hu] at hR CU
    obtain rfl : R = none := hR.symm
    have CU' : Hid (∀ w, Calls Tryd.prog 52 #[.string s] w fun e w' => e = .returned (.tuple #[.string ⟨#[]⟩, .bool false]) ∧ Bl w w') := CU.out
    clear hu hR CU
    go_enter Tryd.func40, Tryd.ntmps40
    go_wp2_with fail
    refine (CU'.out _).mono ?_
    rintro e w1 ⟨rfl, g1⟩
    go_wp2_with fail
    refine (errorsNew_calls _ _).mono ?_
    rintro e w2 ⟨⟨a, rfl⟩, g2⟩
    go_wp2
    go_ret2
    exact ⟨⟨_, rfl, _, _, rfl⟩, g1.gr g2⟩
  | some p =>
    rw [hu] at hR CU
    have CU' : Hid (∀ w, Calls Tryd.prog 52 #[.string s] w fun e w' => e = .returned (.tuple #[.string (B p), .bool true]) ∧ Bl w w') := CU.out
    obtain ⟨hl, ha⟩ := Es.unesc_good _ _ _ hu
    rw [← Lib.size_eq] at hl
    have HC : Hid (∀ w, Bad w → Calls Tryd.prog 60 #[.string (B p), .int .i64 2] w fun e w' => (∃ x, e = .returned x ∧ Err (elemOk 2 p) x) ∧ Gr w w') := fun w hw => by
      have := checkElem_calls (B p) 2 (by omega) (by rw [B_data]; exact ha) w hw (by rw [B_size]; omega)
      rw [B_data] at this; exact this
    obtain ⟨b, hb⟩ : ∃ b, elemOk 2 p = b := ⟨_, rfl⟩
    rw [hb] at HC
    have hR' : (if b = true then some p else none) = R := by rw [← hb]; exact hR
    clear hu hR CU hl ha hb
    cases b with
    | true =>
      obtain rfl : R = some p := hR'.symm
      show Calls Tryd.prog 40 #[.string s] w fun e w' => (∃ x, e = .returned (.tuple #[.string (B p), x]) ∧ Err true x) ∧ Bl w w'
      generalize B p = P at *
      clear hR'
      go_enter Tryd.func40, Tryd.ntmps40
      go_wp2_with fail
      refine (CU'.out _).mono ?_
      rintro e w1 ⟨rfl, g1⟩
      have hb1 := Lib.hid (HB.out.keepB g1)
      go_wp2_with fail
      refine (HC.out _ hb1.out).mono ?_
      rintro e w2 ⟨⟨x, rfl, hx⟩, g2⟩
      obtain rfl : x = .nilIface := hx
      go_wp2
      go_ret2
      exact ⟨⟨_, rfl, rfl⟩, g1.gr g2⟩
    | false =>
      obtain rfl : R = none := hR'.symm
      clear hR'
      generalize B p = P at *
      go_enter Tryd.func40, Tryd.ntmps40
      go_wp2_with fail
      refine (CU'.out _).mono ?_
      rintro e w1 ⟨rfl, g1⟩
      have hb1 := Lib.hid (HB.out.keepB g1)
      go_wp2_with fail
      refine (HC.out _ hb1.out).mono ?_
      rintro e w2 ⟨⟨x, rfl, hx⟩, g2⟩
      obtain ⟨t, a, rfl⟩ : ∃ t a, x = .iface t (.pointer (some a)) := hx
      go_wp2_with fail
      refine (errorsNew_calls _ _).mono ?_
      rintro e w3 ⟨⟨a, rfl⟩, g3⟩
      go_wp2
      go_ret2
      exact ⟨⟨_, rfl, _, _, rfl⟩, (g1.gr g2).gr g3⟩

/-! ### the thin package's -/

theorem iEscapePath_calls (s : ByteArray) (b : Bool) (hb : modI s.data.toList = b) (ha : Asc s.data.toList) (w : World) (hw : Bad w) (hs : s.size ≤ 1000) :
    Calls Tryd.prog 16 #[.string s] w fun e w' => e = .returned (.tuple #[.string (if b = true then B (Es.esc s.data.toList) else ⟨#[]⟩), .bool b]) ∧ Bl w w' := by
  have H := Lib.hid (EscapePath_calls s b hb ha w hw hs)
  clear hb ha hw
  generalize (if b = true then B (Es.esc s.data.toList) else (⟨#[]⟩ : ByteArray)) = E at *
  cases b with
  | true =>
    go_enter Tryd.func16, Tryd.ntmps16
    go_wp2_with fail
    refine H.out.mono ?_
    rintro e w1 ⟨⟨x, rfl, hx⟩, g1⟩
    obtain rfl : x = .nilIface := hx
    go_wp2
    go_quiet (fail)
    go_wp2
    go_ret2
    first | exact ⟨rfl, g1⟩ | exact ⟨rfl, g1.drewN _⟩
  | false =>
    go_enter Tryd.func16, Tryd.ntmps16
    go_wp2_with fail
    refine H.out.mono ?_
    rintro e w1 ⟨⟨x, rfl, hx⟩, g1⟩
    obtain ⟨t, a, rfl⟩ : ∃ t a, x = .iface t (.pointer (some a)) := hx
    go_wp2
    go_quiet (fail)
    go_wp2
    go_ret2
    first | exact ⟨rfl, g1⟩ | exact ⟨rfl, g1.drewN _⟩

theorem iUnescapePath_calls (s : ByteArray) (R : Option (List UInt8)) (hR : (Es.unesc false s.data.toList).bind (fun p => if modI p = true then some p else none) = R) (w : World) (hw : Bad w) (hs : s.size ≤ 1000) :
    Calls Tryd.prog 17 #[.string s] w fun e w' => e = .returned (.tuple #[.string (R.elim ⟨#[]⟩ B), .bool R.isSome]) ∧ Bl w w' := by
  have H := Lib.hid (UnescapePath_calls s R hR w hw hs)
  clear hR hw
  generalize R.elim (⟨#[]⟩ : ByteArray) B = E at *
  generalize R.isSome = b at *
  cases b with
  | true =>
    go_enter Tryd.func17, Tryd.ntmps17
    go_wp2_with fail
    refine H.out.mono ?_
    rintro e w1 ⟨⟨x, rfl, hx⟩, g1⟩
    obtain rfl : x = .nilIface := hx
    go_wp2
    go_quiet (fail)
    go_wp2
    go_ret2
    first | exact ⟨rfl, g1⟩ | exact ⟨rfl, g1.drewN _⟩
  | false =>
    go_enter Tryd.func17, Tryd.ntmps17
    go_wp2_with fail
    refine H.out.mono ?_
    rintro e w1 ⟨⟨x, rfl, hx⟩, g1⟩
    obtain ⟨t, a, rfl⟩ : ∃ t a, x = .iface t (.pointer (some a)) := hx
    go_wp2
    go_quiet (fail)
    go_wp2
    go_ret2
    first | exact ⟨rfl, g1⟩ | exact ⟨rfl, g1.drewN _⟩

theorem iEscapeVersion_calls (s : ByteArray) (b : Bool) (hb : verOk s.data.toList = b) (ha : Asc s.data.toList) (w : World) (hw : Bad w) (hs : s.size ≤ 1000) :
    Calls Tryd.prog 31 #[.string s] w fun e w' => e = .returned (.tuple #[.string (if b = true then B (Es.esc s.data.toList) else ⟨#[]⟩), .bool b]) ∧ Bl w w' := by
  have H := Lib.hid (EscapeVersion_calls s b hb ha w hw hs)
  clear hb ha hw
  generalize (if b = true then B (Es.esc s.data.toList) else (⟨#[]⟩ : ByteArray)) = E at *
  cases b with
  | true =>
    go_enter Tryd.func31, Tryd.ntmps31
    go_wp2_with fail
    refine H.out.mono ?_
    rintro e w1 ⟨⟨x, rfl, hx⟩, g1⟩
    obtain rfl : x = .nilIface := hx
    go_wp2
    go_quiet (fail)
    go_wp2
    go_ret2
    first | exact ⟨rfl, g1⟩ | exact ⟨rfl, g1.drewN _⟩
  | false =>
    go_enter Tryd.func31, Tryd.ntmps31
    go_wp2_with fail
    refine H.out.mono ?_
    rintro e w1 ⟨⟨x, rfl, hx⟩, g1⟩
    obtain ⟨t, a, rfl⟩ : ∃ t a, x = .iface t (.pointer (some a)) := hx
    go_wp2
    go_quiet (fail)
    go_wp2
    go_ret2
    first | exact ⟨rfl, g1⟩ | exact ⟨rfl, g1.drewN _⟩

theorem iUnescapeVersion_calls (s : ByteArray) (R : Option (List UInt8)) (hR : (Es.unesc false s.data.toList).bind (fun p => if elemOk 2 p = true then some p else none) = R) (w : World) (hw : Bad w) (hs : s.size ≤ 1000) :
    Calls Tryd.prog 25 #[.string s] w fun e w' => e = .returned (.tuple #[.string (R.elim ⟨#[]⟩ B), .bool R.isSome]) ∧ Bl w w' := by
  have H := Lib.hid (UnescapeVersion_calls s R hR w hw hs)
  clear hR hw
  generalize R.elim (⟨#[]⟩ : ByteArray) B = E at *
  generalize R.isSome = b at *
  cases b with
  | true =>
    go_enter Tryd.func25, Tryd.ntmps25
    go_wp2_with fail
    refine H.out.mono ?_
    rintro e w1 ⟨⟨x, rfl, hx⟩, g1⟩
    obtain rfl : x = .nilIface := hx
    go_wp2
    go_quiet (fail)
    go_wp2
    go_ret2
    first | exact ⟨rfl, g1⟩ | exact ⟨rfl, g1.drewN _⟩
  | false =>
    go_enter Tryd.func25, Tryd.ntmps25
    go_wp2_with fail
    refine H.out.mono ?_
    rintro e w1 ⟨⟨x, rfl, hx⟩, g1⟩
    obtain ⟨t, a, rfl⟩ : ∃ t a, x = .iface t (.pointer (some a)) := hx
    go_wp2
    go_quiet (fail)
    go_wp2
    go_ret2
    first | exact ⟨rfl, g1⟩ | exact ⟨rfl, g1.drewN _⟩
end Go.Proofs.YtndimgajkjkgfaaDoor
