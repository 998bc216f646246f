/- The walks of package module's zzCut and MatchPrefixPatterns over simple patterns. -/
import Derived.Test.YtmhffhokfdbbcaaDoorMtD
import Derived.Test.YtmhffhokfdbbcaaDoorMtS
import Derived.Test.YtmhffhokfdbbcaaDoorShelf
import Derived.Test.YtmhffhokfdbbcaaDoorSvB
namespace Go.Proofs.YtmhffhokfdbbcaaDoor
open Go.RowKit Str
set_option linter.unusedVariables false

/-- what zzCut hands back at a comma: what stands ahead of the first one, and what behind -/
def CutE (s : ByteArray) (e : Ending) : Prop := ∃ (A R : ByteArray) (m : Bool), e = .returned (.tuple #[.string A, .string R, .bool m]) ∧ (m = false → A = s ∧ R = ⟨#[]⟩) ∧ A.data.toList = s.data.toList.takeWhile (· != 44) ∧ R.data.toList = (s.data.toList.dropWhile (· != 44)).tail

theorem take_len (p : UInt8 → Bool) (l : List UInt8) : l.take (l.takeWhile p).length = l.takeWhile p ∧ l.drop (l.takeWhile p).length = l.dropWhile p := by
  have h := List.takeWhile_append_dropWhile (p := p) (l := l)
  refine ⟨?_, ?_⟩
  · have h2 := congrArg (List.take (l.takeWhile p).length) h
    rw [List.take_left'] at h2
    · exact h2.symm
    · rfl
  · have h2 := congrArg (List.drop (l.takeWhile p).length) h
    rw [List.drop_left'] at h2
    · exact h2.symm
    · rfl
theorem all_ahead : ∀ (l : List UInt8), (44 : UInt8) ∉ l ↔ l.dropWhile (· != 44) = []
  | [] => by simp
  | c :: l => by
    by_cases h : c = 44
    · subst h; simp
    · have ih := all_ahead l
      rw [List.dropWhile_cons_of_pos (by simpa using h), ← ih, List.mem_cons, not_or]
      exact ⟨fun h => h.2, fun h2 => ⟨fun e => h e.symm, h2⟩⟩

set_option maxHeartbeats 1000000 in
theorem zzCut_calls (s : ByteArray) (w : World) (hs : s.size ≤ 1000) :
    Calls Tryd.prog 12 #[.string s, .string ⟨#[44]⟩] w fun e w' => CutE s e ∧ Drew w w' := by
  have ZI : Hid (∀ w, Calls Tryd.prog 16 #[.string s, .string ⟨#[44]⟩] w fun e w' => e = .returned (.int .i64 (idxV [44] s.data.toList)) ∧ w = w') := fun w => zzIndex_calls s ⟨#[44]⟩ w (by omega) (by decide) (by decide)
  have hz1 : (⟨#[44]⟩ : ByteArray).size = 1 := rfl
  by_cases hm : (44 : UInt8) ∈ s.data.toList
  · obtain ⟨k, hk⟩ : ∃ k, (s.data.toList.takeWhile (· != 44)).length = k := ⟨_, rfl⟩
    have hv : idxV [44] s.data.toList = (k : Int) := by unfold idxV; rw [idx_one, if_pos hm, hk]
    rw [hv] at ZI
    obtain ⟨h1, h2⟩ := take_len (· != 44) s.data.toList
    rw [hk] at h1 h2
    have hlt : k < s.size := by
      have hne : s.data.toList.dropWhile (· != 44) ≠ [] := by
        intro e
        exact (all_ahead _).2 e hm
      rw [← h2] at hne
      rw [Lib.size_eq]
      by_cases hlt : k < s.data.toList.length
      · exact hlt
      · exact absurd (List.drop_eq_nil_of_le (by omega)) hne
    have hle : (k : Int) + 1 ≤ (s.size : Int) := by omega
    have hlk : (k : Int) ≤ (s.size : Int) := by omega
    have hnn : ((k : Int) + 1).toNat = k + 1 := by omega
    have HE : Hid (CutE s (.returned (.tuple #[.string (s.extract 0 k), .string (s.extract (k + 1) s.size), .bool true]))) :=
      ⟨_, _, _, rfl, fun h => (by cases h), by rw [Lib.extract_data, ← h1]; simp, by rw [Lib.extract_to_end, ← h2, List.tail_drop]⟩
    clear hv hm h1 h2 hk
    go_enter Tryd.func12, Tryd.ntmps12
    go_wp2_with fail
    refine (ZI.out _).mono ?_
    rintro e w' ⟨rfl, rfl⟩
    clear ZI
    go_wp2
    go_quiet (fail)
    go_wp2
    go_ret3
    exact ⟨HE.out, ⟨_, rfl⟩⟩
  · have hv : idxV [44] s.data.toList = -1 := by unfold idxV; rw [idx_one, if_neg hm]
    rw [hv] at ZI
    have HE : Hid (CutE s (.returned (.tuple #[.string s, .string ⟨#[]⟩, .bool false]))) := by
      have h := List.takeWhile_append_dropWhile (p := (· != (44 : UInt8))) (l := s.data.toList)
      have hd := (all_ahead _).1 hm
      rw [hd, List.append_nil] at h
      exact ⟨_, _, _, rfl, fun _ => ⟨rfl, rfl⟩, h.symm, by rw [hd]; rfl⟩
    clear hv hm
    go_enter Tryd.func12, Tryd.ntmps12
    go_wp2_with fail
    refine (ZI.out _).mono ?_
    rintro e w' ⟨rfl, rfl⟩
    clear ZI
    go_wp2
    go_ret3
    exact ⟨HE.out, Drew.refl _⟩

/-- what MatchPrefixPatterns hands back -/
def AnsE (g T : List UInt8) (e : Ending) : Prop := ∃ r, e = .returned (.bool r) ∧ (r = true ↔ Mt.Ans g T)
theorem AnsE.of {g T : List UInt8} {r : Bool} (h : r = true ↔ Mt.Ans g T) : AnsE g T (.returned (.bool r)) := ⟨r, rfl, h⟩

set_option maxRecDepth 100000 in
set_option maxHeartbeats 16000000 in
theorem matchPrefix_calls (g t : ByteArray) (hg : ∀ x ∈ g.data.toList, okc x.toNat = true) (ht : ∀ x ∈ t.data.toList, x.toNat < 128) (w : World) (hgs : g.size ≤ 1000) (hts : t.size ≤ 1000) :
    Calls Tryd.prog 7 #[.string g, .string t] w fun e w' => AnsE g.data.toList t.data.toList e ∧ Drew w w' := by
  have HP := Lib.hid hg
  have HS := Lib.hid ht
  clear hg ht
  have hz1 : (⟨#[47]⟩ : ByteArray).size = 1 := rfl
  go_enter Tryd.func7, Tryd.ntmps7
  go_wp2
  go_loopg [0] (g.size + 1) (fun n v0 wr => ∃ q : ByteArray, v0 = .string q ∧ q.size < n ∧ q.size ≤ g.size ∧ Drew w wr ∧ Hid ((Mt.Ans g.data.toList t.data.toList ↔ Mt.Ans q.data.toList t.data.toList) ∧ (∀ x ∈ q.data.toList, okc x.toNat = true)))
  case atStart => exact ⟨g, rfl, by omega, Nat.le_refl _, Drew.refl _, ⟨Iff.rfl, HP.out⟩⟩
  case round =>
    obtain ⟨q, rfl, hn, hq, hdr, HK⟩ := hrel
    have HD := Lib.hid hdr
    clear hdr HP
    by_cases hz : 0 < q.size
    · have e0 : (q.toList == ([] : List UInt8)) = false := toList_ne hz
      have CC : Hid (∀ w, Calls Tryd.prog 12 #[.string q, .string ⟨#[44]⟩] w fun e w' => CutE q e ∧ Drew w w') := fun w => zzCut_calls q w (by omega)
      go_wp2_with fail
      refine (CC.out _).mono ?_
      rintro e w1 ⟨⟨A, R, m, rfl, hno, hA, hR⟩, d1⟩
      have HD1 := Lib.hid (HD.out.trans d1)
      have HQ : Hid (Mt.Ans g.data.toList t.data.toList ↔ Mt.One t.data.toList A.data.toList ∨ Mt.Ans R.data.toList t.data.toList) := by
        show _ ↔ _; rw [HK.out.1, Mt.Ans_cons, hA, hR]
      have hlen := congrArg List.length (List.takeWhile_append_dropWhile (p := (· != (44 : UInt8))) (l := q.data.toList))
      rw [List.length_append] at hlen
      have hAs : A.size ≤ q.size := by rw [Lib.size_eq, Lib.size_eq, hA]; omega
      have hRs : R.size < q.size := by
        rw [Lib.size_eq, Lib.size_eq, hR, List.length_tail]
        rw [Lib.size_eq] at hz
        omega
      have HRo : Hid (∀ x ∈ R.data.toList, okc x.toNat = true) := fun x hx => HK.out.2 x (by rw [hR] at hx; exact (List.dropWhile_sublist _).mem (List.mem_of_mem_tail hx))
      obtain ⟨X, hX⟩ : ∃ X, B (Mt.trim A.data.toList) = X := ⟨_, rfl⟩
      have hXl : X.data.toList = Mt.trim A.data.toList := by rw [← hX, B_data]
      have hXs : X.size ≤ A.size := by rw [Lib.size_eq, Lib.size_eq, hXl]; exact Mt.trim_le _
      have HXo : Hid (∀ x ∈ X.data.toList, okc x.toNat = true) := fun x hx => HK.out.2 x (by
        rw [hXl] at hx
        have := Mt.trim_sub x hx
        rw [hA] at this
        exact (List.takeWhile_sublist _).mem this)
      have CT : Hid (∀ w, Calls Tryd.prog 13 #[.string A, .string ⟨#[47]⟩] w fun e w' => e = .returned (.string X) ∧ w' = w) := fun w => by
        rw [← hX]; exact strings_TrimSuffix A ⟨#[47]⟩ w (by omega)
      obtain ⟨a, ha⟩ : ∃ a, A.data.toList = a := ⟨_, rfl⟩
      rw [ha] at hXl HQ
      have HNone : Hid (X.size = 0 → ¬ Mt.One t.data.toList a) := fun h h1 => h1.1 (by rw [← hXl]; exact List.eq_nil_of_length_eq_zero (by rw [← Lib.size_eq]; exact h))
      have HOne : Hid (X.data.toList ≠ [] → ∀ F : ByteArray, Mt.pre (X.data.toList.count 47) t.data.toList = some F.data.toList → (Mt.One t.data.toList a ↔ Glob.Mt X.data.toList F.data.toList)) := fun hne F hF => by
        unfold Mt.One
        rw [← hXl, hF]
        exact ⟨fun ⟨_, f, h1, h2⟩ => by cases h1; exact h2, fun h => ⟨hne, _, rfl, h⟩⟩
      have HFar : Hid (Mt.pre (X.data.toList.count 47) t.data.toList = none → ¬ Mt.One t.data.toList a) := fun h h1 => by
        obtain ⟨_, f, h2, _⟩ := h1
        rw [← hXl, h] at h2; cases h2
      have HYes : Hid (Mt.One t.data.toList a → Mt.Ans g.data.toList t.data.toList) := fun h => HQ.out.2 (.inl h)
      have HNo : Hid (¬ Mt.One t.data.toList a → (Mt.Ans g.data.toList t.data.toList ↔ Mt.Ans R.data.toList t.data.toList) ∧ (∀ x ∈ R.data.toList, okc x.toNat = true)) := fun h => by
        refine ⟨?_, HRo.out⟩
        rw [HQ.out]
        exact ⟨fun h2 => h2.elim (fun h3 => absurd h3 h) id, .inr⟩
      clear HK hlen hA hR hX hXl d1 HD CC hz e0 HQ HRo ha
      obtain ⟨G, hG⟩ : ∃ G, G = gk := ⟨_, rfl⟩
      have HG := Lib.hid hG
      clear hG
      obtain ⟨N, hN⟩ : ∃ N, X.data.toList.count 47 = N := ⟨_, rfl⟩
      have hNle : N ≤ X.size := by rw [← hN, Lib.size_eq]; exact List.count_le_length
      have CZ : Hid (∀ w, Calls Tryd.prog 14 #[.string X, .string ⟨#[47]⟩] w fun e w' => e = .returned (.int .i64 N) ∧ w = w') := fun w => by
        rw [← hN]; exact zzCount_calls X 47 w (by omega)
      rw [hN] at HOne HFar
      clear hN
      have HAt : Hid (∀ (k : Nat) (hlt : k < t.size) (d : UInt8), t[k]'hlt = d → t.data.toList.drop k = d :: t.data.toList.drop (k + 1)) := fun k hlt d hd => by
        have hl : k < t.data.toList.length := by rw [← Lib.size_eq]; exact hlt
        have hdd : t.data.toList[k] = d := Option.some.inj ((List.getElem?_eq_getElem hl).symm.trans (byte_at' t k hlt hd))
        rw [List.drop_eq_getElem_cons hl, hdd]
      have HTk : Hid (∀ (k : Nat) (d : UInt8), t.data.toList.drop k = d :: t.data.toList.drop (k + 1) → t.data.toList.take (k + 1) = t.data.toList.take k ++ [d]) := fun k d h => by
        have h1 := List.take_append_drop k t.data.toList
        have h2 := congrArg (List.take (k + 1)) h1
        have hk : k ≤ t.data.toList.length := by
          by_cases h' : k ≤ t.data.toList.length
          · exact h'
          · rw [List.drop_eq_nil_of_le (by omega)] at h; cases h
        rw [h, List.take_append, List.take_of_length_le (by rw [List.length_take]; omega), List.length_take, Nat.min_eq_left hk, show k + 1 - k = 1 from by omega] at h2
        rw [← h2]; rfl
      cases m
      case' false => obtain ⟨rfl, rfl⟩ := hno rfl
      all_goals
        clear hno
        go_wp2_with fail
        refine (CT.out _).mono ?_
        rintro e w2 ⟨rfl, rfl⟩
        clear CT
        by_cases hX0 : X.size = 0
        · have e0 := emp_true hX0
          have HN := Lib.hid (HNo.out (HNone.out hX0))
          clear HNone HOne HFar HYes HNo hX0 HXo HS CZ HAt HTk
          go_wp2
          go_roundg (G - 1)
          case measure => have := HG.out; omega
          case rel => exact ⟨_, rfl, by have := HG.out; omega, by omega, HD1.out, HN.out⟩
        · have e0 : (X.toList == ([] : List UInt8)) = false := toList_ne (by omega)
          have HXne : Hid (X.data.toList ≠ []) := by
            show _ ≠ _; intro e; rw [Lib.size_eq, e] at hX0; simp at hX0
          clear hX0 HNone
          go_wp2_with fail
          refine (CZ.out _).mono ?_
          rintro e w3 ⟨rfl, rfl⟩
          clear CZ e0
          go_wp2
          go_loopg [9, 10, 11] (t.size + 1) (fun n v9 v10 v11 wx => ∃ i m : Nat, v9 = .int .i64 m ∧ v10 = .string t ∧ v11 = .int .i64 i ∧ t.size < i + n ∧ i ≤ t.size ∧ m ≤ N ∧ Drew w wx ∧ Hid (Mt.pre N t.data.toList = (Mt.pre m (t.data.toList.drop i)).map (t.data.toList.take i ++ ·)))
          case atStart => exact ⟨0, N, rfl, rfl, rfl, by omega, by omega, Nat.le_refl _, HD1.out, by show _ = _; rw [List.drop_zero, List.take_zero]; cases Mt.pre N t.data.toList <;> rfl⟩
          case round =>
            obtain ⟨i, m, rfl, rfl, rfl, hgi, hi, hm, hdx, HI⟩ := hrel
            clear HD1
            have HD1 := Lib.hid hdx
            clear hdx
            by_cases hlt : i < t.size
            · obtain ⟨d, hd⟩ : ∃ d : UInt8, t[i]'hlt = d := ⟨_, rfl⟩
              have hlt' : (i : Int) < (t.size : Int) := by omega
              have HDr := Lib.hid (HAt.out i hlt d hd)
              by_cases h47 : d = 47
              · subst h47
                by_cases hm0 : m = 0
                · subst hm0
                  have hle : (i : Int) ≤ (t.size : Int) := by omega
                  have HPre : Hid (Mt.pre N t.data.toList = some (t.extract 0 i).data.toList) := by
                    show _ = _
                    rw [HI.out, HDr.out, Mt.pre_here, Lib.extract_data]; simp
                  obtain ⟨F, hF⟩ : ∃ F, t.extract 0 i = F := ⟨_, rfl⟩
                  have hFl : F.data.toList = t.data.toList.take i := by rw [← hF, Lib.extract_data]; simp
                  have hFs : F.size ≤ t.size := by rw [Lib.size_eq, Lib.size_eq, hFl, List.length_take]; omega
                  rw [hF] at HPre
                  have HFo : Hid (∀ x ∈ F.data.toList, x.toNat < 128) := fun x hx => HS.out x (by rw [hFl] at hx; exact List.mem_of_mem_take hx)
                  clear HI HDr HAt HTk hFl hgi
                  have HD3 := HD1
                  clear HD1
                  have CPM : Hid (∀ w, Calls Tryd.prog 15 #[.string X, .string F] w fun e w' => MatchE X.data.toList (F).data.toList e ∧ Drew w w') := fun w =>
                    pathMatch_calls X _ HXo.out HFo.out w (by omega) (by omega)
                  have HONE : Hid (Mt.One t.data.toList a ↔ Glob.Mt X.data.toList (F).data.toList) := HOne.out HXne.out _ HPre.out
                  clear HPre HXo HOne HFar HXne
                  go_wp2_with fail
                  refine (CPM.out _).mono ?_
                  rintro e w5 ⟨⟨r, rfl, hr⟩, d5⟩
                  have HD5 := Lib.hid (HD3.out.trans d5)
                  clear d5 CPM HD3
                  cases r with
                  | true =>
                    have HF := Lib.hid (HYes.out (HONE.out.2 (hr.1 rfl)))
                    clear hr HYes HNo HONE HS
                    go_wp2
                    first | go_ret | (rw [Exit.noGoto_ret]; go_ret)
                    exact ⟨⟨true, rfl, fun _ => HF.out, fun _ => rfl⟩, HD5.out⟩
                  | false =>
                    have HN := Lib.hid (HNo.out (fun h => by have := hr.2 (HONE.out.1 h); cases this))
                    clear hr HYes HNo HONE HS
                    go_wp2
                    go_roundg (G - 1)
                    case measure => have := HG.out; omega
                    case rel => exact ⟨_, rfl, by have := HG.out; omega, by omega, HD5.out, HN.out⟩
                · have hm1 : ((m : Int) == 0) = false := beq_eq_false_iff_ne.2 (by omega)
                  have hmm : (m : Int) - 1 = ((m - 1 : Nat) : Int) := by omega
                  have HN : Hid (Mt.pre N t.data.toList = (Mt.pre (m - 1) (t.data.toList.drop (i + 1))).map (t.data.toList.take (i + 1) ++ ·)) := by
                    show _ = _
                    rw [HI.out, HDr.out, show m = (m - 1) + 1 from by omega, Mt.pre_stroke, HTk.out i 47 HDr.out, Nat.add_sub_cancel]
                    cases Mt.pre (m - 1) (t.data.toList.drop (i + 1)) with
                    | none => rfl
                    | some x => simp
                  clear HI HDr
                  go_wp2
                  go_roundg (gk - 1)
                  case measure => omega
                  case rel => exact ⟨i + 1, m - 1, by go_num, rfl, by go_num, by omega, by omega, by omega, HD1.out, HN⟩
              · have e47 : ((d.toNat : Int) == 47) = false := ne_nat h47
                have HN : Hid (Mt.pre N t.data.toList = (Mt.pre m (t.data.toList.drop (i + 1))).map (t.data.toList.take (i + 1) ++ ·)) := by
                  show _ = _
                  rw [HI.out, HDr.out, Mt.pre_step _ _ _ h47, HTk.out i d HDr.out]
                  cases Mt.pre m (t.data.toList.drop (i + 1)) with
                  | none => rfl
                  | some x => simp
                clear HI HDr
                go_wp2
                go_roundg (gk - 1)
                case measure => omega
                case rel => exact ⟨i + 1, m, rfl, rfl, by go_num, by omega, by omega, by omega, HD1.out, HN⟩
            · have hlt' : ¬ (i : Int) < (t.size : Int) := by omega
              have hE : t.data.toList.drop i = [] := List.drop_eq_nil_of_le (by rw [← Lib.size_eq]; omega)
              have hT : t.data.toList.take i = t.data.toList := List.take_of_length_le (by rw [← Lib.size_eq]; omega)
              rw [hE, hT, Mt.pre_end] at HI
              have HD3 := HD1
              clear HD1 hE hT HAt HTk hgi
              by_cases hm0 : m = 0
              · subst hm0
                have HPre : Hid (Mt.pre N t.data.toList = some t.data.toList) := by show _ = _; rw [HI.out]; simp
                clear HI
                have CPM : Hid (∀ w, Calls Tryd.prog 15 #[.string X, .string t] w fun e w' => MatchE X.data.toList (t).data.toList e ∧ Drew w w') := fun w =>
                  pathMatch_calls X _ HXo.out HS.out w (by omega) (by omega)
                have HONE : Hid (Mt.One t.data.toList a ↔ Glob.Mt X.data.toList (t).data.toList) := HOne.out HXne.out _ HPre.out
                clear HPre HXo HOne HFar HXne
                go_wp2_with fail
                refine (CPM.out _).mono ?_
                rintro e w5 ⟨⟨r, rfl, hr⟩, d5⟩
                have HD5 := Lib.hid (HD3.out.trans d5)
                clear d5 CPM HD3
                cases r with
                | true =>
                  have HF := Lib.hid (HYes.out (HONE.out.2 (hr.1 rfl)))
                  clear hr HYes HNo HONE HS
                  go_wp2
                  first | go_ret | (rw [Exit.noGoto_ret]; go_ret)
                  exact ⟨⟨true, rfl, fun _ => HF.out, fun _ => rfl⟩, HD5.out⟩
                | false =>
                  have HN := Lib.hid (HNo.out (fun h => by have := hr.2 (HONE.out.1 h); cases this))
                  clear hr HYes HNo HONE HS
                  go_wp2
                  go_roundg (G - 1)
                  case measure => have := HG.out; omega
                  case rel => exact ⟨_, rfl, by have := HG.out; omega, by omega, HD5.out, HN.out⟩
              · have hm1 : (0 : Int) < (m : Int) := by omega
                have HN := Lib.hid (HNo.out (HFar.out (by rw [HI.out, if_neg hm0]; rfl)))
                clear HI HNo HYes HFar HOne HXo HS HXne
                go_wp2
                go_roundg (G - 1)
                case measure => have := HG.out; omega
                case rel => exact ⟨_, rfl, by have := HG.out; omega, by omega, HD3.out, HN.out⟩
    · have e0 : (q.toList == ([] : List UInt8)) = true := emp_true (by omega)
      have HF : Hid (false = true ↔ Mt.Ans g.data.toList t.data.toList) := by
        show _ ↔ _
        rw [HK.out.1, show q.data.toList = [] from List.eq_nil_of_length_eq_zero (by rw [← Lib.size_eq]; omega)]
        exact ⟨fun h => (by cases h), fun h => absurd h (Mt.Ans_nil _)⟩
      clear HK hn
      go_wp2
      go_ret
      exact ⟨AnsE.of HF.out, HD.out⟩
end Go.Proofs.YtmhffhokfdbbcaaDoor
