/- The walk of the reference's Match. -/
import Derived.Test.YtmhffhokfdbbcaaDoorMtF
import Derived.Test.YtmhffhokfdbbcaaDoorMtE
namespace Go.Proofs.YtmhffhokfdbbcaaDoor
open Go.RowKit Str
set_option linter.unusedVariables false

theorem str_plus {a b c : ByteArray} (h : a ++ b = c) (hs : a.size + b.size ≤ 9223372036854775807) : Op.stringOp .add a b = pure (.string c) := by
  simp only [Op.stringOp]
  rw [if_neg (by rw [IntKind.max_i64]; omega), h]

set_option maxRecDepth 100000 in
set_option maxHeartbeats 16000000 in
theorem spMatch_calls (g t : ByteArray) (w : World) (hgs : g.size ≤ 900) (hts : t.size ≤ 900) :
    Calls Tryd.prog 6 #[.string g, .string t] w fun e w' => AnsE g.data.toList t.data.toList e ∧ Bl w w' := by
  have hz1 : (⟨#[47]⟩ : ByteArray).size = 1 := rfl
  obtain ⟨L, hL⟩ : ∃ L, Ver.split 47 t.data.toList = L := ⟨_, rfl⟩
  have CEt : Hid (∀ w, Calls Tryd.prog 10 #[.string t] w fun e w' => (∃ v, e = .returned v ∧ Strs w' v L) ∧ Bl w w') := fun w => by
    rw [← hL]; exact Elements_calls t w (by omega)
  have HL := Lib.hid hL
  have hL0 : 0 < L.length := by rw [← hL]; exact Mt.split_pos _
  have hLs : L.length ≤ t.size + 1 := by rw [← hL, Mt.split_count, Lib.size_eq]; have := List.count_le_length (a := (47 : UInt8)) (l := t.data.toList); omega
  clear hL
  go_enter Tryd.func6, Tryd.ntmps6
  go_wp2
  go_loopg [0] (g.size + 1) (fun n v0 wr => ∃ q : ByteArray, v0 = .string q ∧ q.size < n ∧ q.size ≤ g.size ∧ Bl w wr ∧ Hid (Mt.Ans g.data.toList t.data.toList ↔ Mt.Ans q.data.toList t.data.toList))
  case atStart => exact ⟨g, rfl, by omega, Nat.le_refl _, Bl.refl _, Iff.rfl⟩
  case round =>
    obtain ⟨q, rfl, hn, hq, hdr, HK⟩ := hrel
    have HB := Lib.hid hdr
    clear hdr
    obtain ⟨A, hA⟩ : ∃ A : ByteArray, B (q.data.toList.takeWhile (· != 44)) = A := ⟨_, rfl⟩
    obtain ⟨R, hR⟩ : ∃ R : ByteArray, B (q.data.toList.dropWhile (· != 44)).tail = R := ⟨_, rfl⟩
    obtain ⟨m, hm⟩ : ∃ m, (!(q.data.toList.dropWhile (· != 44)).isEmpty) = m := ⟨_, rfl⟩
    have hAl : A.data.toList = q.data.toList.takeWhile (· != 44) := by rw [← hA, B_data]
    have hRl : R.data.toList = (q.data.toList.dropWhile (· != 44)).tail := by rw [← hR, B_data]
    have CC : Hid (∀ w, Calls Tryd.prog 8 #[.string q, .int .u8 44] w fun e w' => e = .returned (.tuple #[.string A, .string R, .bool m]) ∧ Drew w w') := fun w =>
      Cut_tell (c := 44) w rfl (by omega) hAl.symm hRl.symm hm
    have hlen := congrArg List.length (List.takeWhile_append_dropWhile (p := (· != (44 : UInt8))) (l := q.data.toList))
    rw [List.length_append, ← hAl, ← Lib.size_eq, ← Lib.size_eq] at hlen
    have hAs : A.size ≤ q.size := by omega
    have hRs : m = true → R.size < q.size := fun h => by
      rw [Lib.size_eq, hRl, List.length_tail]
      rw [← hm] at h
      have : 0 < (q.data.toList.dropWhile (· != 44)).length := by
        rw [List.length_pos_iff]; intro e; rw [e] at h; cases h
      omega
    obtain ⟨a, ha⟩ : ∃ a, A.data.toList = a := ⟨_, rfl⟩
    obtain ⟨X, hX⟩ : ∃ X, B (Mt.trim a) = X := ⟨_, rfl⟩
    have hXl : X.data.toList = Mt.trim a := by rw [← hX, B_data]
    have hXs : X.size ≤ A.size := by rw [Lib.size_eq, Lib.size_eq, hXl, ha]; exact Mt.trim_le _
    have HYes : Hid (Mt.One t.data.toList a → Mt.Ans g.data.toList t.data.toList) := fun h => HK.out.2 ((Mt.Ans_cons _ _).2 (.inl (by rw [← hAl, ha]; exact h)))
    have HNoT : Hid (m = true → ¬ Mt.One t.data.toList a → (Mt.Ans g.data.toList t.data.toList ↔ Mt.Ans R.data.toList t.data.toList)) := fun _ h => by
      rw [HK.out, Mt.Ans_cons, ← hRl, ← hAl, ha]
      exact ⟨fun h2 => h2.elim (fun h3 => absurd h3 h) id, .inr⟩
    have HNoF : Hid (m = false → ¬ Mt.One t.data.toList a → ¬ Mt.Ans g.data.toList t.data.toList) := fun hf h => by
      rw [← hm, Bool.not_eq_false', List.isEmpty_iff] at hf
      rw [HK.out, Mt.Ans_last hf, ← hAl, ha]; exact h
    obtain ⟨bE, hbE⟩ : ∃ bE, List.isSuffixOf [47] a = bE := ⟨_, rfl⟩
    have CEn : Hid (∀ w, Calls Tryd.prog 9 #[.string A, .string ⟨#[47]⟩] w fun e w' => e = .returned (.bool bE) ∧ Drew w w') := fun w => by
      rw [← hbE, ← ha]; exact ends_calls A ⟨#[47]⟩ w (by omega)
    have HXt : Hid (bE = true → A.extract 0 (A.size - 1) = X ∧ 1 ≤ A.size) := fun h => by
      rw [h] at hbE
      have h2 := Mt.trim_yes hbE
      have h1 := (List.isSuffixOf_iff_suffix.1 hbE).length_le
      refine ⟨of_data ?_, by rw [Lib.size_eq, ha]; simpa using h1⟩
      rw [hXl, h2, Lib.extract_data, ha, Lib.size_eq, ha]; simp
    have HXf : Hid (bE = false → A = X) := fun h => by
      rw [h] at hbE
      exact of_data (by rw [hXl, Mt.trim_no hbE, ha])
    obtain ⟨N, hN⟩ : ∃ N, (Ver.split 47 X.data.toList).length = N := ⟨_, rfl⟩
    have CEx : Hid (∀ w, Calls Tryd.prog 10 #[.string X] w fun e w' => (∃ v, e = .returned v ∧ Strs w' v (Ver.split 47 X.data.toList)) ∧ Bl w w') := fun w => Elements_calls X w (by omega)
    have hN0 : 0 < N := by rw [← hN]; exact Mt.split_pos _
    have hNs : N ≤ X.size + 1 := by rw [← hN, Mt.split_count, Lib.size_eq]; have := List.count_le_length (a := (47 : UInt8)) (l := X.data.toList); omega
    have HOne : Hid (Mt.One t.data.toList a ↔ X.size ≠ 0 ∧ N ≤ L.length ∧ Glob.Mt X.data.toList (Ver.glue 47 (L.take N))) := by
      show _ ↔ _
      rw [Mt.One_parts, ← hXl, hN, HL.out]
      refine and_congr_left fun _ => ?_
      rw [Lib.size_eq]
      exact not_congr List.length_eq_zero_iff.symm
    have HNlen := Lib.hid hN
    clear HK hA hR hm hAl hRl hlen ha hX hXl hbE hN
    obtain ⟨G, hG⟩ : ∃ G, G = gk := ⟨_, rfl⟩
    have HG := Lib.hid hG
    clear hG
    go_wp2_with fail
    refine (CC.out _).mono ?_
    rintro e w1 ⟨rfl, d1⟩
    have HB1 := Lib.hid (HB.out.dr d1)
    clear d1 HB CC
    go_wp2_with fail
    refine (CEn.out _).mono ?_
    rintro e w2 ⟨rfl, d2⟩
    have HB2 := Lib.hid (HB1.out.dr d2)
    clear d2 HB1 CEn
    obtain ⟨M, rfl⟩ : ∃ M, N = M + 1 := ⟨N - 1, by omega⟩
    cases bE
    case' true =>
      obtain ⟨hXe, hA1⟩ := HXt.out rfl
      have a1 : ((A.size : Int) - 1).toNat = A.size - 1 := by omega
      have a0 : (0 : Int) ≤ (A.size : Int) - 1 := by omega
      have a2 : (A.size : Int) - 1 ≤ (A.size : Int) := by omega
    case' false =>
      have e := (HXf.out rfl).symm
      subst e
    all_goals
      clear HXt HXf
      by_cases hX0 : X.size = 0
      · have hx0' : ¬ (0 : Int) < (X.size : Int) := by omega
        have HNot : Hid (¬ Mt.One t.data.toList a) := fun h => (HOne.out.1 h).1 hX0
        clear HOne HYes CEt CEx HNlen HL
        cases m with
        | true =>
          have HN := Lib.hid (HNoT.out rfl HNot.out)
          have hR := hRs rfl
          go_wp2
          go_roundg (G - 1)
          case measure => have := HG.out; omega
          case rel => exact ⟨R, rfl, by have := HG.out; omega, by omega, HB2.out, HN.out⟩
        | false =>
          have HN := Lib.hid (HNoF.out rfl HNot.out)
          go_wp2
          go_ret
          exact ⟨⟨false, rfl, fun h => (by cases h), fun h => absurd h HN.out⟩, HB2.out⟩
      · have hx0' : (0 : Int) < (X.size : Int) := by omega
        go_wp2_with fail
        refine (CEt.out _).mono ?_
        rintro e w3 ⟨⟨v, rfl, hv⟩, b3⟩
        obtain ⟨bl, cap, rfl, hbl, hcap, hcell⟩ := hv
        have HC3 : Hid (bl < w3.heap.size ∧ ∀ i l, L[i]? = some l → w3.cell? ⟨bl, i, none⟩ = some (.string (B l))) := ⟨hbl, hcell⟩
        have HB3 := Lib.hid (HB2.out.trans b3)
        clear b3 HB2 CEt hbl hcell hx0'
        go_wp2_with fail
        refine (CEx.out _).mono ?_
        rintro e w4 ⟨⟨v, rfl, hv⟩, b4⟩
        obtain ⟨bl2, cap2, rfl, hh1, hh2, hh3⟩ := hv
        rw [HNlen.out]
        have HB4 := Lib.hid (HB3.out.trans b4)
        have HC4 : Hid (bl < w4.heap.size ∧ ∀ i l, L[i]? = some l → w4.cell? ⟨bl, i, none⟩ = some (.string (B l))) := ⟨Nat.lt_of_lt_of_le HC3.out.1 b4.size, fun i l hi => (b4.cell HC3.out.1).trans (HC3.out.2 i l hi)⟩
        clear b4 HB3 HC3 CEx hh1 hh2 hh3
        by_cases hNL : M + 1 ≤ L.length
        · have hNL' : (M : Int) + 1 ≤ (L.length : Int) := by omega
          obtain ⟨x0, hx0⟩ : ∃ x0, L[0]? = some x0 := ⟨_, List.getElem?_eq_getElem hL0⟩
          obtain ⟨F0, hF0⟩ : ∃ F0, B x0 = F0 := ⟨_, rfl⟩
          have hc0 : w4.cell? ⟨bl, 0, none⟩ = some (.string F0) := by rw [← hF0]; exact HC4.out.2 0 x0 hx0
          have hl0 : (0 : Int) < (L.length : Int) := by omega
          have hN1 : (1 : Int) ≤ (M : Int) + 1 := by omega
          have hNc : (M : Int) + 1 ≤ (cap : Int) := by omega
          have HGL : Hid (∀ j, (Ver.glue 47 (L.take j)).length ≤ t.size) := fun j => by
            have := Mt.glue_take_le 47 L j
            rw [← HL.out, Ver.glue_split, ← Lib.size_eq] at this
            rw [← HL.out]; exact this
          have H0 : Hid (F0.data.toList = Ver.glue 47 (L.take 1)) := by
            show _ = _
            rw [← hF0, B_data]
            obtain ⟨hlt, hx⟩ := List.getElem?_eq_some_iff.1 hx0
            rw [List.take_succ_eq_append_getElem hlt, hx]; rfl
          have hF0s : F0.size ≤ t.size := by rw [Lib.size_eq, H0.out]; exact HGL.out 1
          have HPL : Hid (∀ (j : Nat) (x : List UInt8), L[j]? = some x → x.length ≤ t.size) := fun j x hx => by
            have := Mt.part_len t.data.toList x (by rw [HL.out]; exact List.mem_of_getElem? hx)
            rw [Lib.size_eq]; exact this
          clear hx0 hF0
          go_wp2
          all_goals
            clear hc0
            go_loopg [10, 45] (M + 1) (fun n v10 v45 wx => ∃ (j : Nat) (F : ByteArray), v10 = .string F ∧ v45 = .int .i64 j ∧ M < j + n ∧ j ≤ M ∧ F.size ≤ t.size ∧ w4 = wx ∧ Hid (F.data.toList = Ver.glue 47 (L.take (j + 1))))
            case atStart => exact ⟨0, F0, rfl, rfl, by omega, by omega, hF0s, rfl, H0⟩
            case round =>
              obtain ⟨j, F, rfl, rfl, hgj, hj, hFs, rfl, HF⟩ := hrel
              by_cases hjM : j < M
              · try (exfalso; omega)
                all_goals
                  have hjM' : (j : Int) < (M : Int) := by omega
                  obtain ⟨x, hx⟩ : ∃ x, L[j + 1]? = some x := ⟨_, List.getElem?_eq_getElem (by omega)⟩
                  obtain ⟨Y, hY⟩ : ∃ Y, B x = Y := ⟨_, rfl⟩
                  have hcj : w4.cell? ⟨bl, 1 + j, none⟩ = some (.string Y) := by rw [← hY, Nat.add_comm]; exact HC4.out.2 (j + 1) x hx
                  have hxs := HPL.out (j + 1) x hx
                  obtain ⟨S1, hS1⟩ : ∃ S1, B (47 :: x) = S1 := ⟨_, rfl⟩
                  have hYs : Y.size ≤ 900 := by rw [← hY, B_size]; omega
                  have hS1s : S1.size ≤ 901 := by rw [← hS1, B_size, List.length_cons]; omega
                  have padd1 : Op.stringOp .add (⟨#[47]⟩ : ByteArray) Y = pure (.string S1) := str_plus (by rw [← hY, ← hS1]; exact B_append [47] x) (by omega)
                  obtain ⟨F2, hF2⟩ : ∃ F2, F ++ S1 = F2 := ⟨_, rfl⟩
                  have padd2 : Op.stringOp .add F S1 = pure (.string F2) := str_plus hF2 (by omega)
                  have HF2 : Hid (F2.data.toList = Ver.glue 47 (L.take (j + 1 + 1))) := by
                    show _ = _
                    rw [Mt.glue_next hx, ← hF2, Go.Joins.data_append, HF.out, ← hS1, B_data]
                  have hF2s : F2.size ≤ t.size := by rw [Lib.size_eq, HF2.out]; exact HGL.out _
                  clear HF hx hY hxs hS1 hF2 hYs hS1s
                  go_wp2
                  go_roundg (gk - 1)
                  case measure => omega
                  case rel => exact ⟨j + 1, F2, rfl, by go_num, by omega, by omega, hF2s, rfl, HF2⟩
              · have hjM' : ¬ (j : Int) < (M : Int) := by omega
                obtain rfl : j = M := by omega
                have CF : Hid (∀ w, Calls Tryd.prog 11 #[.string X, .string F] w fun e w' => FitsE X.data.toList F.data.toList e ∧ Bl w w') := fun w => fits_calls X F w (by omega) (by omega)
                have HIff : Hid (Mt.One t.data.toList a ↔ Glob.Mt X.data.toList F.data.toList) := by
                  show _ ↔ _
                  rw [HOne.out, HF.out]
                  exact ⟨fun h => h.2.2, fun h => ⟨hX0, hNL, h⟩⟩
                clear HOne HF HC4 HGL HPL H0 HL HNlen
                go_wp2_with fail
                refine (CF.out _).mono ?_
                rintro e w5 ⟨⟨r, rfl, hr⟩, b5⟩
                have HB5 := Lib.hid (HB4.out.trans b5)
                clear b5 HB4 CF
                cases r with
                | true =>
                  have HY := Lib.hid (HYes.out (HIff.out.2 (hr.1 rfl)))
                  clear hr HIff HYes HNoT HNoF
                  go_wp2
                  go_ret
                  exact ⟨⟨true, rfl, fun _ => HY.out, fun _ => rfl⟩, HB5.out⟩
                | false =>
                  have HNot : Hid (¬ Mt.One t.data.toList a) := fun h => by have := hr.2 (HIff.out.1 h); cases this
                  clear hr HIff HYes
                  cases m with
                  | true =>
                    have HN := Lib.hid (HNoT.out rfl HNot.out)
                    have hR := hRs rfl
                    go_wp2
                    go_roundg (G - 1)
                    case measure => have := HG.out; omega
                    case rel => exact ⟨R, rfl, by have := HG.out; omega, by omega, HB5.out, HN.out⟩
                  | false =>
                    have HN := Lib.hid (HNoF.out rfl HNot.out)
                    go_wp2
                    go_ret
                    exact ⟨⟨false, rfl, fun h => (by cases h), fun h => absurd h HN.out⟩, HB5.out⟩
        · have hNL' : ¬ (M : Int) + 1 ≤ (L.length : Int) := by omega
          have HNot : Hid (¬ Mt.One t.data.toList a) := fun h => hNL (HOne.out.1 h).2.1
          clear HOne HYes HC4 HNlen HL
          cases m with
          | true =>
            have HN := Lib.hid (HNoT.out rfl HNot.out)
            have hR := hRs rfl
            go_wp2
            go_roundg (G - 1)
            case measure => have := HG.out; omega
            case rel => exact ⟨R, rfl, by have := HG.out; omega, by omega, HB4.out, HN.out⟩
          | false =>
            have HN := Lib.hid (HNoF.out rfl HNot.out)
            go_wp2
            go_ret
            exact ⟨⟨false, rfl, fun h => (by cases h), fun h => absurd h HN.out⟩, HB4.out⟩
end Go.Proofs.YtmhffhokfdbbcaaDoor
