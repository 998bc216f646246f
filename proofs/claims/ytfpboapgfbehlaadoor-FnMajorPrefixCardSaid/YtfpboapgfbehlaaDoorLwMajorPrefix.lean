/- What a version must begin with, for a path's version: the walk of the law FnMajorPrefix. -/
import Derived.Test.YtfpboapgfbehlaaDoorLwMajor
namespace Go.Proofs.YtfpboapgfbehlaaDoor
open Go.RowKit Str
set_option linter.unusedVariables false

theorem majT_fig (r : Nat) (h : r < 12) : Mj.majT (118 :: fig r) = 118 :: fig r := by
  rcases (by omega : r = 0 ∨ r = 1 ∨ r = 2 ∨ r = 3 ∨ r = 4 ∨ r = 5 ∨ r = 6 ∨ r = 7 ∨ r = 8 ∨ r = 9 ∨ r = 10 ∨ r = 11) with rfl | rfl | rfl | rfl | rfl | rfl | rfl | rfl | rfl | rfl | rfl | rfl
  all_goals kernel_rfl

theorem Major_fig (r : Nat) (h : r < 12) (w : World) : Calls Tryd.prog 37 #[.string (B (118 :: fig r))] w fun e w' => e = .returned (.string (B (118 :: fig r))) ∧ Gr w w' :=
  (Major_calls (B (118 :: fig r)) w (by rw [B_size]; have := fig_len h; simp; omega)).mono fun e w' ⟨p, q⟩ => ⟨by
    rw [p, B_data]
    have := majT_fig r h
    unfold Mj.majT at this
    cases hp : Ver.parse (118 :: fig r) with
    | none => rw [hp] at this; cases this
    | some v => rw [hp] at this; show Ending.returned (.string (B (118 :: v.major))) = _; rw [show 118 :: v.major = 118 :: fig r from this], q⟩

theorem B_tail (c : UInt8) (l : List UInt8) : (B (c :: l)).extract 1 (B (c :: l)).size = B l := by
  rw [B_from]; rfl
theorem B_head (c : UInt8) (l : List UInt8) (h : 0 < (B (c :: l)).size) : (B (c :: l))[0]'h = c := by
  rw [B_get]; rfl

theorem mj_prefix (c : UInt8) (l : List UInt8) (hc : c ≠ 46) : Lib.hasPrefix (c :: l) [46, 118] = false := by
  show ([46, 118] : List UInt8).isPrefixOf (c :: l) = false
  simp [List.isPrefixOf]; intro h; exact absurd h.symm hc
theorem mj_prefix2 (l : List UInt8) : Lib.hasPrefix (46 :: 118 :: l) [46, 118] = true := by
  show ([46, 118] : List UInt8).isPrefixOf (46 :: 118 :: l) = true
  simp [List.isPrefixOf]
theorem mj_suffix {r : Nat} (h : r < 12) : Lib.hasSuffix (46 :: 118 :: fig r) Pth.uns = false := by
  cases hs : Lib.hasSuffix (46 :: 118 :: fig r) Pth.uns with
  | false => rfl
  | true =>
    have h1 : (9 : Nat) ≤ (46 :: 118 :: fig r).length := (Pth.suffix_drop.1 hs).1
    have := fig_len h
    simp at h1; omega
theorem mj_suffix2 (l : List UInt8) : Lib.hasSuffix (l ++ Pth.uns) Pth.uns = true := by
  show Pth.uns.isSuffixOf (l ++ Pth.uns) = true
  rw [List.isSuffixOf_iff_suffix]; exact ⟨l, rfl⟩

set_option maxRecDepth 100000 in
set_option maxHeartbeats 4000000 in
theorem PathMajorPrefix_none (w : World) : Calls Tryd.prog 36 #[.string ⟨#[]⟩] w fun e w' => e = .returned (.string ⟨#[]⟩) ∧ Gr w w' := by
  have h1 : ((⟨#[]⟩ : ByteArray).toList == ([] : List UInt8)) = true := toList_nil
  go_enter Tryd.func36, Tryd.ntmps36
  go_wp2
  go_ret
  exact ⟨rfl, Gr.refl _⟩

set_option maxRecDepth 100000 in
set_option maxHeartbeats 4000000 in
theorem PathMajorPrefix_calls (q r : Nat) (hr : r < 12) (hq : q = 1 ∨ q = 2 ∨ q = 3) (w : World) :
    Calls Tryd.prog 36 #[.string (B (majL q r))] w fun e w' => e = .returned (.string (B (118 :: fig r))) ∧ Gr w w' := by
  have CJ := Lib.hid fun w => Major_fig r hr w
  have hl := fig_len hr
  obtain ⟨X, hX⟩ : ∃ X, X = B (118 :: fig r) := ⟨_, rfl⟩
  have e5 : (X.toList == X.toList) = true := beq_self_eq_true _
  have e5' : (X.toList != X.toList) = false := by rw [bne, e5]; rfl
  rw [← hX] at CJ ⊢
  rcases hq with rfl | rfl | rfl
  · obtain ⟨T, hT⟩ : ∃ T, T = B (majL 1 r) := ⟨_, rfl⟩
    have hT' : T = B (47 :: 118 :: fig r) := hT
    rw [← hT]
    have e1 : (T.toList == ([] : List UInt8)) = false := by rw [hT', B_list]; rfl
    have hp : 0 < T.size := by rw [hT', B_size]; simp
    have hp1 : (1 : Int) ≤ (T.size : Int) := by omega
    have h0 : T[0]'hp = 47 := by subst hT'; exact B_head _ _ _
    have C1 : Hid (∀ w, Calls Tryd.prog 48 #[.string T, .string ⟨#[46, 118]⟩] w fun e w' => e = .returned (.bool false) ∧ w = w') := fun w =>
      (strings_HasPrefix T ⟨#[46, 118]⟩ w).mono fun e w' ⟨p, q⟩ => ⟨by rw [p]; exact ret_bool (by rw [hT', B_data]; exact mj_prefix _ _ (by decide)), q.symm⟩
    have hex : T.extract 1 T.size = X := by rw [hT', hX]; exact B_tail _ _
    clear hT hT' hX hl
    go_enter Tryd.func36, Tryd.ntmps36
    go_wp2_with fail
    refine (C1.out _).mono ?_
    rintro e w' ⟨rfl, rfl⟩
    go_wp2_with fail
    refine (CJ.out _).mono ?_
    rintro e w1 ⟨rfl, g1⟩
    go_wp2
    go_ret
    exact ⟨rfl, g1⟩
  · obtain ⟨T, hT⟩ : ∃ T, T = B (majL 2 r) := ⟨_, rfl⟩
    have hT' : T = B (46 :: 118 :: fig r) := hT
    rw [← hT]
    have e1 : (T.toList == ([] : List UInt8)) = false := by rw [hT', B_list]; rfl
    have hp : 0 < T.size := by rw [hT', B_size]; simp
    have hp1 : (1 : Int) ≤ (T.size : Int) := by omega
    have h0 : T[0]'hp = 46 := by subst hT'; exact B_head _ _ _
    have hsz : T.size ≤ 20 := by rw [hT', B_size]; simp; omega
    have C1 : Hid (∀ w, Calls Tryd.prog 48 #[.string T, .string ⟨#[46, 118]⟩] w fun e w' => e = .returned (.bool true) ∧ w = w') := fun w =>
      (strings_HasPrefix T ⟨#[46, 118]⟩ w).mono fun e w' ⟨p, q⟩ => ⟨by rw [p]; exact ret_bool (by rw [hT', B_data]; exact mj_prefix2 _), q.symm⟩
    have C2 : Hid (∀ w, Calls Tryd.prog 50 #[.string T, .string ⟨#[45, 117, 110, 115, 116, 97, 98, 108, 101]⟩] w fun e w' => e = .returned (.bool false) ∧ w = w') := fun w =>
      (strings_HasSuffix T ⟨#[45, 117, 110, 115, 116, 97, 98, 108, 101]⟩ w (by omega)).mono fun e w' ⟨p, q⟩ => ⟨by rw [p]; exact ret_bool (by rw [hT', B_data]; exact mj_suffix hr), q.symm⟩
    have hex : T.extract 1 T.size = X := by rw [hT', hX]; exact B_tail _ _
    clear hT hT' hX hl hsz
    go_enter Tryd.func36, Tryd.ntmps36
    go_wp2_with fail
    refine (C1.out _).mono ?_
    rintro e w' ⟨rfl, rfl⟩
    go_wp2_with fail
    refine (C2.out _).mono ?_
    rintro e w' ⟨rfl, rfl⟩
    go_wp2_with fail
    refine (CJ.out _).mono ?_
    rintro e w1 ⟨rfl, g1⟩
    go_wp2
    go_ret
    exact ⟨rfl, g1⟩
  · obtain ⟨T, hT⟩ : ∃ T, T = B (majL 3 r) := ⟨_, rfl⟩
    have hT' : T = B (46 :: 118 :: fig r ++ Pth.uns) := hT
    rw [← hT]
    have e1 : (T.toList == ([] : List UInt8)) = false := by rw [hT', B_list]; rfl
    have hp : 0 < T.size := by rw [hT', B_size]; simp
    have hp1 : (1 : Int) ≤ (T.size : Int) := by omega
    have h0 : T[0]'hp = 46 := by subst hT'; exact B_head _ _ _
    have hsz : T.size ≤ 20 := by rw [hT', B_size]; simp [Pth.uns]; omega
    obtain ⟨T2, hT2⟩ : ∃ T, T = B (46 :: 118 :: fig r) := ⟨_, rfl⟩
    have hp2 : 0 < T2.size := by rw [hT2, B_size]; simp
    have hp3 : (1 : Int) ≤ (T2.size : Int) := by omega
    have C1 : Hid (∀ w, Calls Tryd.prog 48 #[.string T, .string ⟨#[46, 118]⟩] w fun e w' => e = .returned (.bool true) ∧ w = w') := fun w =>
      (strings_HasPrefix T ⟨#[46, 118]⟩ w).mono fun e w' ⟨p, q⟩ => ⟨by rw [p]; exact ret_bool (by rw [hT', B_data]; exact mj_prefix2 _), q.symm⟩
    have C2 : Hid (∀ w, Calls Tryd.prog 50 #[.string T, .string ⟨#[45, 117, 110, 115, 116, 97, 98, 108, 101]⟩] w fun e w' => e = .returned (.bool true) ∧ w = w') := fun w =>
      (strings_HasSuffix T ⟨#[45, 117, 110, 115, 116, 97, 98, 108, 101]⟩ w (by omega)).mono fun e w' ⟨p, q⟩ => ⟨by rw [p]; exact ret_bool (by rw [hT', B_data]; exact mj_suffix2 _), q.symm⟩
    have C3 : Hid (∀ w, Calls Tryd.prog 51 #[.string T, .string ⟨#[45, 117, 110, 115, 116, 97, 98, 108, 101]⟩] w fun e w' => e = .returned (.string T2) ∧ w = w') := fun w =>
      (strings_TrimSuffix T ⟨#[45, 117, 110, 115, 116, 97, 98, 108, 101]⟩ w (by omega)).mono fun e w' ⟨p, q⟩ => ⟨by
        rw [p, hT', B_data, hT2]
        unfold Lib.trimSuffix
        have h9 : Lib.hasSuffix (46 :: 118 :: fig r ++ Pth.uns) (⟨#[45, 117, 110, 115, 116, 97, 98, 108, 101]⟩ : ByteArray).data.toList = true := mj_suffix2 _
        rw [h9, if_pos rfl]
        have e : (46 :: 118 :: fig r ++ Pth.uns).length - (⟨#[45, 117, 110, 115, 116, 97, 98, 108, 101]⟩ : ByteArray).data.toList.length = (46 :: 118 :: fig r).length := by rw [List.length_append]; show _ + 9 - 9 = _; omega
        rw [e, List.take_left]; rfl, q.symm⟩
    have hex : T2.extract 1 T2.size = X := by rw [hT2, hX]; exact B_tail _ _
    clear hT hT' hX hl hsz hT2
    go_enter Tryd.func36, Tryd.ntmps36
    go_wp2_with fail
    refine (C1.out _).mono ?_
    rintro e w' ⟨rfl, rfl⟩
    go_wp2_with fail
    refine (C2.out _).mono ?_
    rintro e w' ⟨rfl, rfl⟩
    go_wp2_with fail
    refine (C3.out _).mono ?_
    rintro e w' ⟨rfl, rfl⟩
    go_wp2_with fail
    refine (CJ.out _).mono ?_
    rintro e w1 ⟨rfl, g1⟩
    go_wp2
    go_ret
    exact ⟨rfl, g1⟩

set_option maxRecDepth 100000 in
set_option maxHeartbeats 4000000 in
theorem iMajorPrefix_none (w : World) : Calls Tryd.prog 19 #[.string ⟨#[]⟩] w fun e w' => e = .returned (.tuple #[.string ⟨#[]⟩, .bool true]) ∧ Gr w w' := by
  have h1 : ((⟨#[]⟩ : ByteArray).toList == ([] : List UInt8)) = true := toList_nil
  have CP := Lib.hid PathMajorPrefix_none
  go_enter Tryd.func19, Tryd.ntmps19
  go_wp2_with fail
  refine (CP.out _).mono ?_
  rintro e w1 ⟨rfl, g1⟩
  go_wp2
  go_ret2
  exact ⟨rfl, g1⟩

set_option maxRecDepth 100000 in
set_option maxHeartbeats 4000000 in
theorem iMajorPrefix_calls (q r : Nat) (hr : r < 12) (hq : q = 1 ∨ q = 2 ∨ q = 3) (w : World) :
    Calls Tryd.prog 19 #[.string (B (majL q r))] w fun e w' => e = .returned (.tuple #[.string (B (118 :: fig r)), .bool true]) ∧ Gr w w' := by
  have CJ := Lib.hid fun w => Major_fig r hr w
  have CP := Lib.hid fun w => PathMajorPrefix_calls q r hr hq w
  have hl := fig_len hr
  obtain ⟨X, hX⟩ : ∃ X, X = B (118 :: fig r) := ⟨_, rfl⟩
  have e5 : (X.toList == X.toList) = true := beq_self_eq_true _
  have e5' : (X.toList != X.toList) = false := by rw [bne, e5]; rfl
  obtain ⟨T, hT⟩ : ∃ T, T = B (majL q r) := ⟨_, rfl⟩
  rw [← hX] at CJ CP ⊢
  rw [← hT] at CP ⊢
  have hXs : X.size ≤ 3 := by rw [hX, B_size]; simp; omega
  rcases hq with rfl | rfl | rfl
  · have hT' : T = B (47 :: 118 :: fig r) := hT
    have e1 : (T.toList == ([] : List UInt8)) = false := by rw [hT', B_list]; rfl
    have hp : 0 < T.size := by rw [hT', B_size]; simp
    have hp1 : (1 : Int) ≤ (T.size : Int) := by omega
    have hp2 : (2 : Int) ≤ (T.size : Int) := by rw [hT', B_size]; simp; omega
    have h0 : T[0]'hp = 47 := by subst hT'; exact B_head _ _ _
    have hex : T.extract 1 T.size = X := by rw [hT', hX]; exact B_tail _ _
    obtain ⟨Y, hY⟩ : ∃ Y, T.extract 0 2 = Y := ⟨_, rfl⟩
    have e2 : (Y.toList == ([46, 118] : List UInt8)) = false := by rw [← hY, hT', B_front, B_list]; rfl
    clear hT hT' hX hl
    go_enter Tryd.func19, Tryd.ntmps19
    go_wp2_with fail
    refine (CJ.out _).mono ?_
    rintro e w1 ⟨rfl, g1⟩
    go_wp2_with fail
    refine (CP.out _).mono ?_
    rintro e w2 ⟨rfl, g2⟩
    go_wp2
    go_ret2
    exact ⟨rfl, g1.trans g2⟩
  · have hT' : T = B (46 :: 118 :: fig r) := hT
    have e1 : (T.toList == ([] : List UInt8)) = false := by rw [hT', B_list]; rfl
    have hp : 0 < T.size := by rw [hT', B_size]; simp
    have hp1 : (1 : Int) ≤ (T.size : Int) := by omega
    have hp2 : (2 : Int) ≤ (T.size : Int) := by rw [hT', B_size]; simp; omega
    have h0 : T[0]'hp = 46 := by subst hT'; exact B_head _ _ _
    have hex : T.extract 1 T.size = X := by rw [hT', hX]; exact B_tail _ _
    obtain ⟨Y, hY⟩ : ∃ Y, T.extract 0 2 = Y := ⟨_, rfl⟩
    have e2 : (Y.toList == ([46, 118] : List UInt8)) = true := by rw [← hY, hT', B_front, B_list]; rfl
    have hX9 : ¬ (9 : Int) ≤ (X.size : Int) := by omega
    clear hT hT' hX hl
    go_enter Tryd.func19, Tryd.ntmps19
    go_wp2_with fail
    refine (CJ.out _).mono ?_
    rintro e w1 ⟨rfl, g1⟩
    go_wp2_with fail
    refine (CP.out _).mono ?_
    rintro e w2 ⟨rfl, g2⟩
    go_wp2
    go_ret2
    exact ⟨rfl, g1.trans g2⟩
  · have hT' : T = B (46 :: 118 :: fig r ++ Pth.uns) := hT
    have e1 : (T.toList == ([] : List UInt8)) = false := by rw [hT', B_list]; rfl
    have hp : 0 < T.size := by rw [hT', B_size]; simp
    have hp1 : (1 : Int) ≤ (T.size : Int) := by omega
    have hp2 : (2 : Int) ≤ (T.size : Int) := by rw [hT', B_size]; simp; omega
    have h0 : T[0]'hp = 46 := by subst hT'; exact B_head _ _ _
    obtain ⟨Z, hZ⟩ : ∃ Z, Z = B (118 :: fig r ++ Pth.uns) := ⟨_, rfl⟩
    have hex : T.extract 1 T.size = Z := by rw [hT', hZ]; exact B_tail _ _
    obtain ⟨Y, hY⟩ : ∃ Y, T.extract 0 2 = Y := ⟨_, rfl⟩
    have e2 : (Y.toList == ([46, 118] : List UInt8)) = true := by rw [← hY, hT', B_front, B_list]; rfl
    have hZs : Z.size = X.size + 9 := by rw [hZ, hX, B_size, B_size, List.length_append]; rfl
    have hZ9 : (9 : Int) ≤ (Z.size : Int) := by omega
    have hZb : Z.size ≤ 20 := by omega
    have hZ0 : (0 : Int) ≤ (Z.size : Int) - 9 := by omega
    have hZn : ((Z.size : Int) - 9).toNat = Z.size - 9 := by omega
    obtain ⟨U, hU⟩ : ∃ U, Z.extract (Z.size - 9) Z.size = U := ⟨_, rfl⟩
    have e3 : (U.toList == ([45, 117, 110, 115, 116, 97, 98, 108, 101] : List UInt8)) = true := by
      rw [← hU, Lib.toList_data, Lib.extract_to_end]
      have : Z.size - 9 = (118 :: fig r).length := by rw [hZs, hX, B_size]; omega
      rw [this, hZ, B_data, List.drop_left]; rfl
    have hf : Z.extract 0 (Z.size - 9) = X := by
      have : Z.size - 9 = (118 :: fig r).length := by rw [hZs, hX, B_size]; omega
      rw [this, hZ, B_front, List.take_left, hX]
    clear hT hT' hX hl hZ hZs
    go_enter Tryd.func19, Tryd.ntmps19
    go_wp2_with fail
    refine (CJ.out _).mono ?_
    rintro e w1 ⟨rfl, g1⟩
    go_wp2_with fail
    refine (CP.out _).mono ?_
    rintro e w2 ⟨rfl, g2⟩
    go_wp2
    go_ret2
    exact ⟨rfl, g1.trans g2⟩

set_option maxRecDepth 100000 in
set_option maxHeartbeats 4000000 in
theorem law_FnMajorPrefix (k n : Nat) (w : World) (hw : Bad w) (hk : k ≤ 255) (hn : n ≤ 255) :
    Calls Tryd.prog 6 #[.int .u8 k, .int .u8 n] w fun e w' => e = .returned (.bool true) ∧ Below w.heap.size w w' := by
  have HB := Lib.hid hw
  have CA : Hid (∀ w, Bad w → Calls Tryd.prog 12 #[] w fun e w' => e = .returned (.bool true) ∧ Gr w w') := fun w hw => alive_calls w hw
  have CM := Lib.hid fun w => major_calls k n hk hn w
  obtain ⟨q, hq⟩ : ∃ q, k % 4 = q := ⟨_, rfl⟩
  obtain ⟨r, hr⟩ : ∃ r, n % 12 = r := ⟨_, rfl⟩
  have hr12 : r < 12 := by omega
  have e12 : (n : Int) % 12 = (r : Int) := by omega
  rw [hq, hr] at CM
  have hq4 : q < 4 := by omega
  clear hw hq hr
  by_cases h0 : q = 0
  · subst h0
    have CM' : Hid (∀ w, Calls Tryd.prog 18 #[.int .u8 k, .int .u8 n] w fun e w' => e = .returned (.string ⟨#[]⟩) ∧ Gr w w') := CM.out
    have CI := Lib.hid iMajorPrefix_none
    have h1 : ((⟨#[]⟩ : ByteArray).toList == ([] : List UInt8)) = true := toList_nil
    clear CM e12
    go_enter Tryd.func6, Tryd.ntmps6
    go_wp2_with fail
    refine (CM'.out _).mono ?_
    rintro e w1 ⟨rfl, g1⟩
    go_wp2_with fail
    refine (CI.out _).mono ?_
    rintro e w2 ⟨rfl, g2⟩
    have hb := Lib.hid (HB.out.keep (g1.trans g2))
    go_wp2_with fail
    refine (CA.out _ hb.out).mono ?_
    rintro e w3 ⟨rfl, g3⟩
    go_wp2
    go_ret
    exact ⟨rfl, ((g1.trans g2).trans g3).below⟩
  · have hq3 : q = 1 ∨ q = 2 ∨ q = 3 := by omega
    have CI := Lib.hid fun w => iMajorPrefix_calls q r hr12 hq3 w
    have CF := Lib.hid fun w => figure_calls r hr12 w
    have hl := fig_len hr12
    have hne : (B (majL q r)).size ≠ 0 := by
      rw [B_size]
      rcases hq3 with rfl | rfl | rfl <;> simp [majL]
    have e1 : ((B (majL q r)).toList == ([] : List UInt8)) = false := toList_ne (by omega)
    obtain ⟨X, hX⟩ : ∃ X, X = B (118 :: fig r) := ⟨_, rfl⟩
    obtain ⟨a0, h0'⟩ : ∃ a, a = B (fig r) := ⟨_, rfl⟩
    have padd : Op.stringOp .add (⟨#[118]⟩ : ByteArray) a0 = pure (.string X) := str_add (by rw [h0', hX]; exact B_append [118] _) (by rw [h0', B_size]; have : (⟨#[118]⟩ : ByteArray).size = 1 := rfl; omega)
    have e5 : (X.toList == X.toList) = true := beq_self_eq_true _
    rw [← hX] at CI
    rw [← h0'] at CF
    generalize B (majL q r) = T at *
    clear hX h0' hl hq3 h0 hq4 hne
    go_enter Tryd.func6, Tryd.ntmps6
    go_wp2_with fail
    refine (CM.out _).mono ?_
    rintro e w1 ⟨rfl, g1⟩
    go_wp2_with fail
    refine (CI.out _).mono ?_
    rintro e w2 ⟨rfl, g2⟩
    go_wp2_with fail
    refine (CF.out _).mono ?_
    rintro e w3 ⟨rfl, g3⟩
    go_wp2
    go_ret
    exact ⟨rfl, ((g1.trans g2).trans g3).below⟩
end Go.Proofs.YtfpboapgfbehlaaDoor
