/- The walk of the law FnMatch: it returns true. -/
import Derived.Test.YtmhffhokfdbbcaaDoorMtH
namespace Go.Proofs.YtmhffhokfdbbcaaDoor
open Go.RowKit Str
set_option linter.unusedVariables false

theorem okc_asc {l : List UInt8} (h : ∀ c ∈ l, okc c.toNat = true) : ∀ c ∈ l, c.toNat < 128 := fun c hc => (okc_no' (h c hc)).2.2

theorem iMatch_calls (g t : ByteArray) (hg : ∀ x ∈ g.data.toList, okc x.toNat = true) (ht : ∀ x ∈ t.data.toList, okc x.toNat = true) (w : World) (hgs : g.size ≤ 1000) (hts : t.size ≤ 1000) :
    Calls Tryd.prog 5 #[.string g, .string t] w fun e w' => AnsE g.data.toList t.data.toList e ∧ Drew w w' := by
  have CM := Lib.hid fun w => matchPrefix_calls g t hg (okc_asc ht) w hgs hts
  clear hg ht
  go_enter Tryd.func5, Tryd.ntmps5
  go_wp2_with fail
  refine (CM.out _).mono ?_
  rintro e w1 ⟨⟨r, rfl, hr⟩, d1⟩
  have HR := Lib.hid hr
  have HD := Lib.hid d1
  clear hr d1
  go_wp2
  go_ret
  exact ⟨⟨r, rfl, HR.out⟩, HD.out⟩

set_option maxRecDepth 100000 in
set_option maxHeartbeats 4000000 in
theorem law_FnMatch (g t : ByteArray) (w : World) (hgs : g.size ≤ 140737488351232) (hts : t.size ≤ 140737488351232) :
    Calls Tryd.prog 3 #[.string g, .string t] w fun e w' => e = .returned (.bool true) ∧ Below w.heap.size w w' := by
  by_cases h40 : 40 < g.size
  · by_cases hbig : (2147483647 : Int) < (g.size : Int)
    · go_enter Tryd.func3, Tryd.ntmps3
      go_wp2
      go_ret
      exact ⟨rfl, Below.refl _ _⟩
    · have h40' : (40 : Int) < (g.size : Int) := by omega
      by_cases hbig2 : (2147483647 : Int) < (t.size : Int)
      all_goals
        go_enter Tryd.func3, Tryd.ntmps3
        go_wp2
        go_ret
        exact ⟨rfl, Below.refl _ _⟩
  have h40' : ¬ (40 : Int) < (g.size : Int) := by omega
  have hbig : ¬ (2147483647 : Int) < (g.size : Int) := by omega
  by_cases h60 : 60 < t.size
  · have h60' : (60 : Int) < (t.size : Int) := by omega
    by_cases hbig2 : (2147483647 : Int) < (t.size : Int)
    all_goals
      go_enter Tryd.func3, Tryd.ntmps3
      go_wp2
      go_ret
      exact ⟨rfl, Below.refl _ _⟩
  have h60' : ¬ (60 : Int) < (t.size : Int) := by omega
  have hbig2 : ¬ (2147483647 : Int) < (t.size : Int) := by omega
  have C1 := Lib.hid fun w => simple_calls g w (by omega)
  have C2 := Lib.hid fun w => simple_calls t w (by omega)
  have hG : g.size ≤ 40 := by omega
  have hT : t.size ≤ 60 := by omega
  clear h40 h60 hgs hts
  go_enter Tryd.func3, Tryd.ntmps3
  go_wp2_with fail
  refine (C1.out _).mono ?_
  rintro e w1 ⟨⟨r, rfl, hr⟩, rfl⟩
  cases r with
  | false =>
    clear hr
    go_wp2
    go_ret
    exact ⟨rfl, Below.refl _ _⟩
  | true =>
    have HG := Lib.hid (hr rfl)
    clear hr
    go_wp2_with fail
    refine (C2.out _).mono ?_
    rintro e w1 ⟨⟨r, rfl, hr⟩, rfl⟩
    cases r with
    | false =>
      clear hr
      go_wp2
      go_ret
      exact ⟨rfl, Below.refl _ _⟩
    | true =>
      have HT := Lib.hid (hr rfl)
      have CI := Lib.hid fun w => iMatch_calls g t HG.out HT.out w (by omega) (by omega)
      have CS := Lib.hid fun w => spMatch_calls g t w (by omega) (by omega)
      have CR : Hid (∀ w, Calls Tryd.prog 5 #[.string ⟨#[97, 47, 42]⟩, .string ⟨#[97, 47, 98, 47, 99]⟩] w fun e w' => e = .returned (.bool true) ∧ Drew w w') := fun w =>
        (iMatch_calls ⟨#[97, 47, 42]⟩ ⟨#[97, 47, 98, 47, 99]⟩ (by decide +kernel) (by decide +kernel) w (by decide) (by decide)).mono fun e w' h => by
          obtain ⟨⟨r, rfl, hr⟩, hd⟩ := h
          exact ⟨by rw [hr.2 Mt.real], hd⟩
      clear hr C1 C2
      go_wp2_with fail
      refine (CI.out _).mono ?_
      rintro e w2 ⟨⟨r1, rfl, hr1⟩, d1⟩
      go_wp2_with fail
      refine (CS.out _).mono ?_
      rintro e w3 ⟨⟨r2, rfl, hr2⟩, d2⟩
      have hrr : r1 = r2 := by rw [Bool.eq_iff_iff, hr1, hr2]
      subst hrr
      have HB := Lib.hid ((Bl.of_drew d1).trans d2)
      have hbb : (r1 == r1) = true := beq_self_eq_true _
      clear hr1 hr2 d1 d2
      go_wp2_with fail
      refine (CR.out _).mono ?_
      rintro e w4 ⟨rfl, d4⟩
      have HB4 := Lib.hid (HB.out.dr d4)
      clear d4 HB
      go_wp2
      go_ret
      exact ⟨rfl, HB4.out⟩
end Go.Proofs.YtmhffhokfdbbcaaDoor
