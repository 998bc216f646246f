/- A version goes with a path's version exactly if the rules say so: the walk of the law FnMajor. -/
import Derived.Test.YtfpboapgfbehlaaDoorLwAlive
import Derived.Test.YtfpboapgfbehlaaDoorSpMaj
import Derived.Test.YtfpboapgfbehlaaDoorMajor
namespace Go.Proofs.YtfpboapgfbehlaaDoor
open Go.RowKit Str
set_option linter.unusedVariables false

theorem iCheckMajor_calls (s t : ByteArray) (b : Bool) (w : World) (hs : s.size ≤ 140737488351232) (ht : t.size ≤ 140737488351232)
    (hgood : Mj.strip t.data.toList = [] ∨ (Mj.strip t.data.toList).head? = some 47 ∨ (Mj.strip t.data.toList).head? = some 46)
    (hb : Mj.okI s.data.toList (Mj.strip t.data.toList) = b) :
    Calls Tryd.prog 22 #[.string s, .string t] w fun e w' => e = .returned (.bool b) ∧ Gr w w' := by
  have H := Lib.hid (CheckPathMajor_calls s t w hs ht hgood)
  rw [hb] at H
  clear hb hgood
  cases b with
  | true =>
    go_enter Tryd.func22, Tryd.ntmps22
    go_wp2_with fail
    refine H.out.mono ?_
    rintro e w1 ⟨⟨x, rfl, hx⟩, hg⟩
    obtain rfl : x = .nilIface := hx
    go_wp2
    go_ret
    exact ⟨rfl, hg⟩
  | false =>
    go_enter Tryd.func22, Tryd.ntmps22
    go_wp2_with fail
    refine H.out.mono ?_
    rintro e w1 ⟨⟨x, rfl, hx⟩, hg⟩
    obtain ⟨t, a, rfl⟩ : ∃ t a, x = .iface t (.pointer (some a)) := hx
    go_wp2
    go_ret
    exact ⟨rfl, hg⟩

theorem MatchPathMajor_calls (s t : ByteArray) (b : Bool) (w : World) (hs : s.size ≤ 140737488351232) (ht : t.size ≤ 140737488351232)
    (hgood : Mj.strip t.data.toList = [] ∨ (Mj.strip t.data.toList).head? = some 47 ∨ (Mj.strip t.data.toList).head? = some 46)
    (hb : Mj.okI s.data.toList (Mj.strip t.data.toList) = b) :
    Calls Tryd.prog 39 #[.string s, .string t] w fun e w' => e = .returned (.bool b) ∧ Gr w w' := by
  have H := Lib.hid (CheckPathMajor_calls s t w hs ht hgood)
  rw [hb] at H
  clear hb hgood
  cases b with
  | true =>
    go_enter Tryd.func39, Tryd.ntmps39
    go_wp2_with fail
    refine H.out.mono ?_
    rintro e w1 ⟨⟨x, rfl, hx⟩, hg⟩
    obtain rfl : x = .nilIface := hx
    go_wp2
    go_ret
    exact ⟨rfl, hg⟩
  | false =>
    go_enter Tryd.func39, Tryd.ntmps39
    go_wp2_with fail
    refine H.out.mono ?_
    rintro e w1 ⟨⟨x, rfl, hx⟩, hg⟩
    obtain ⟨t, a, rfl⟩ : ∃ t a, x = .iface t (.pointer (some a)) := hx
    go_wp2
    go_ret
    exact ⟨rfl, hg⟩

theorem iMatchMajor_calls (s t : ByteArray) (b : Bool) (w : World) (hs : s.size ≤ 140737488351232) (ht : t.size ≤ 140737488351232)
    (hgood : Mj.strip t.data.toList = [] ∨ (Mj.strip t.data.toList).head? = some 47 ∨ (Mj.strip t.data.toList).head? = some 46)
    (hb : Mj.okI s.data.toList (Mj.strip t.data.toList) = b) :
    Calls Tryd.prog 23 #[.string s, .string t] w fun e w' => e = .returned (.bool b) ∧ Gr w w' := by
  have H := Lib.hid (MatchPathMajor_calls s t b w hs ht hgood hb)
  clear hb hgood
  go_enter Tryd.func23, Tryd.ntmps23
  go_wp2_with fail
  refine H.out.mono ?_
  rintro e w1 ⟨rfl, hg⟩
  go_wp2
  go_ret
  exact ⟨rfl, hg⟩

theorem fig_cons (r : Nat) : ∃ c l, fig r = c :: l := by unfold fig; split <;> exact ⟨_, _, rfl⟩

theorem strip_major (q r : Nat) (hr : r < 12) : Mj.strip (majL q r) = (match q with | 1 => 47 :: 118 :: fig r | 2 => 46 :: 118 :: fig r | 3 => 46 :: 118 :: fig r | _ => []) := by
  have hl := fig_len hr
  unfold Mj.strip majL
  match q with
  | 0 => rfl
  | 1 =>
    have hh : ¬ ((([46, 118] : List UInt8).isPrefixOf (47 :: 118 :: fig r) && Pth.uns.isSuffixOf (47 :: 118 :: fig r)) = true) := by simp [List.isPrefixOf]
    show (if (([46, 118] : List UInt8).isPrefixOf (47 :: 118 :: fig r) && Pth.uns.isSuffixOf (47 :: 118 :: fig r)) = true then _ else 47 :: 118 :: fig r) = 47 :: 118 :: fig r
    rw [if_neg hh]
  | 2 =>
    have hh : ¬ ((([46, 118] : List UInt8).isPrefixOf (46 :: 118 :: fig r) && Pth.uns.isSuffixOf (46 :: 118 :: fig r)) = true) := by
      rw [Bool.and_eq_true, not_and]
      intro _ h
      have := (Pth.suffix_drop.1 h).1
      have : (9 : Nat) ≤ (46 :: 118 :: fig r).length := this
      simp at this; omega
    show (if (([46, 118] : List UInt8).isPrefixOf (46 :: 118 :: fig r) && Pth.uns.isSuffixOf (46 :: 118 :: fig r)) = true then _ else 46 :: 118 :: fig r) = 46 :: 118 :: fig r
    rw [if_neg hh]
  | 3 =>
    have hh : (([46, 118] : List UInt8).isPrefixOf (46 :: 118 :: fig r ++ Pth.uns) && Pth.uns.isSuffixOf (46 :: 118 :: fig r ++ Pth.uns)) = true := by
      rw [Bool.and_eq_true, List.isPrefixOf_iff_prefix, List.isSuffixOf_iff_suffix]
      exact ⟨⟨fig r ++ Pth.uns, by simp⟩, ⟨46 :: 118 :: fig r, rfl⟩⟩
    show (if (([46, 118] : List UInt8).isPrefixOf (46 :: 118 :: fig r ++ Pth.uns) && Pth.uns.isSuffixOf (46 :: 118 :: fig r ++ Pth.uns)) = true then (46 :: 118 :: fig r ++ Pth.uns).take ((46 :: 118 :: fig r ++ Pth.uns).length - 9) else _) = 46 :: 118 :: fig r
    rw [if_pos hh]
    have e : (46 :: 118 :: fig r ++ Pth.uns).length - 9 = (46 :: 118 :: fig r).length := by rw [List.length_append]; show _ + 9 - 9 = _; omega
    rw [e, List.take_left]
  | n + 4 => rfl

theorem majL_len (q r : Nat) (hr : r < 12) : (majL q r).length ≤ 20 := by
  have hl := fig_len hr
  unfold majL
  split <;> simp <;> omega

set_option maxHeartbeats 4000000 in
theorem law_FnMajor (s : ByteArray) (k n : Nat) (w : World) (hw : Bad w) (hs : s.size ≤ 140737488351232) (hk : k ≤ 255) (hn : n ≤ 255) :
    Calls Tryd.prog 7 #[.string s, .int .u8 k, .int .u8 n] w fun e w' => e = .returned (.bool true) ∧ Below w.heap.size w w' := by
  by_cases h1 : 2147483647 < s.size
  · go_enter Tryd.func7, Tryd.ntmps7
    go_wp2
    go_ret
    exact ⟨rfl, Below.refl _ _⟩
  by_cases h2 : 100 < s.size
  · go_enter Tryd.func7, Tryd.ntmps7
    go_wp2
    go_ret
    exact ⟨rfl, Below.refl _ _⟩
  have HB := Lib.hid hw
  have CA : Hid (∀ w, Bad w → Calls Tryd.prog 12 #[] w fun e w' => e = .returned (.bool true) ∧ Gr w w') := fun w hw => alive_calls w hw
  have CM := Lib.hid fun w => major_calls k n hk hn w
  obtain ⟨T, hT⟩ : ∃ T : ByteArray, T = B (majL (k % 4) (n % 12)) := ⟨_, rfl⟩
  have hTl : T.data.toList = majL (k % 4) (n % 12) := by rw [hT, B_data]
  have hr : n % 12 < 12 := by omega
  have hTs : T.size ≤ 20 := by rw [Lib.size_eq, hTl]; exact majL_len _ _ hr
  have hst := strip_major (k % 4) (n % 12) hr
  have hgood : Mj.strip T.data.toList = [] ∨ (Mj.strip T.data.toList).head? = some 47 ∨ (Mj.strip T.data.toList).head? = some 46 := by
    rw [hTl, hst]
    split
    · exact .inr (.inl rfl)
    · exact .inr (.inr rfl)
    · exact .inr (.inr rfl)
    · exact .inl rfl
  have hsame : Mj.okI s.data.toList (Mj.strip T.data.toList) = Mj.okS s.data.toList (Mj.strip T.data.toList) := by
    refine Mj.ok_same _ _ ?_
    rw [hTl, hst]
    split <;> first | exact .inl rfl | (right; simp)
  rw [← hT] at CM
  obtain ⟨b, hb⟩ : ∃ b, Mj.okS s.data.toList (Mj.strip T.data.toList) = b := ⟨_, rfl⟩
  rw [hb] at hsame
  have C1 := Lib.hid fun w => spMajor_calls s T w (by omega) (by omega)
  rw [hb] at C1
  have C2 := Lib.hid fun w => iCheckMajor_calls s T b w hs (by omega) hgood hsame
  have C3 := Lib.hid fun w => iMatchMajor_calls s T b w hs (by omega) hgood hsame
  clear hw hT hTl hr hTs hst hgood hsame hb
  cases b
  all_goals
    go_enter Tryd.func7, Tryd.ntmps7
    go_wp2_with fail
    refine (CM.out _).mono ?_
    rintro e w1 ⟨rfl, g1⟩
    go_wp2_with fail
    refine (C1.out _).mono ?_
    rintro e w2 ⟨rfl, g2⟩
    go_wp2_with fail
    refine (C2.out _).mono ?_
    rintro e w3 ⟨rfl, g3⟩
    go_wp2_with fail
    refine (C3.out _).mono ?_
    rintro e w4 ⟨rfl, g4⟩
    have hb := Lib.hid (HB.out.keep (((g1.trans g2).trans g3).trans g4))
    go_wp2_with fail
    refine (CA.out _ hb.out).mono ?_
    rintro e w5 ⟨rfl, g5⟩
    go_wp2
    go_ret
    exact ⟨rfl, ((((g1.trans g2).trans g3).trans g4).trans g5).below⟩
end Go.Proofs.YtfpboapgfbehlaaDoor
