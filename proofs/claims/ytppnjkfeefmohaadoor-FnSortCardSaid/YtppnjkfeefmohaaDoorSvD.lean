/- The walk of package semver's parse: what a text is as a version. -/
import Derived.Test.YtppnjkfeefmohaaDoorSvC
namespace Go.Proofs.YtppnjkfeefmohaaDoor
open Go.RowKit Str Ver
set_option linter.unusedVariables false

/-- what parse hands back: the parts, and whether the text is a version -/
def ParseR (l : List UInt8) (e : Ending) : Prop :=
  match Ver.parse l with
  | some v => e = .returned (.tuple #[.agg #[.string (B v.major), .string (B v.minor), .string (B v.patch), .string (B v.short), .string (B v.pre), .string (B v.build)], .bool true])
  | none => ∃ a b c d f g : ByteArray, e = .returned (.tuple #[.agg #[.string a, .string b, .string c, .string d, .string f, .string g], .bool false])

theorem ParseR_none {l : List UInt8} (h : Ver.parse l = none) (a b c d f g : ByteArray) : ParseR l (.returned (.tuple #[.agg #[.string a, .string b, .string c, .string d, .string f, .string g], .bool false])) := by
  unfold ParseR; rw [h]; exact ⟨a, b, c, d, f, g, rfl⟩
theorem ParseR_some {l : List UInt8} {v : V} (h : Ver.parse l = some v) : ParseR l (.returned (.tuple #[.agg #[.string (B v.major), .string (B v.minor), .string (B v.patch), .string (B v.short), .string (B v.pre), .string (B v.build)], .bool true])) := by
  unfold ParseR; rw [h]

theorem parseInt_no {s : ByteArray} (w : World) (hs : s.size ≤ 140737488351232) (h : num s.data.toList = none) :
    Calls Tryd.prog 61 #[.string s] w fun e w' => e = .returned (.tuple #[.string (B []), .string (B []), .bool false]) ∧ Drew w w' :=
  (parseInt_calls s w hs).mono fun e w' ⟨h1, h2⟩ => ⟨by rw [h1, parseIntV_none h], h2⟩
theorem parseInt_yes {s t : ByteArray} {d : List UInt8} (w : World) (hs : s.size ≤ 140737488351232) (h : num s.data.toList = some (d, t.data.toList)) :
    Calls Tryd.prog 61 #[.string s] w fun e w' => e = .returned (.tuple #[.string (B d), .string t, .bool true]) ∧ Drew w w' :=
  (parseInt_calls s w hs).mono fun e w' ⟨h1, h2⟩ => ⟨by rw [h1, parseIntV_some h, B_of], h2⟩

/-- what a part of a text holds is no longer than the text -/
theorem num_len {l d r : List UInt8} (h : num l = some (d, r)) : r.length ≤ l.length := by
  unfold num at h
  simp only at h
  split at h
  · cases h
  · split at h
    · cases h
    · simp only [Option.some.injEq, Prod.mk.injEq] at h
      rw [← h.2]
      exact (List.dropWhile_sublist _).length_le

/-- cutting the first byte off -/
theorem cut1 (s : ByteArray) : (s.extract 1 s.size).data.toList = s.data.toList.tail := by rw [Lib.extract_to_end, List.drop_one]
theorem cut1_size (s : ByteArray) : (s.extract 1 s.size).size = s.size - 1 := by rw [Lib.size_eq, cut1, List.length_tail, ← Lib.size_eq]
theorem head_at {s : ByteArray} {c : UInt8} (h : s.data.toList[0]? = some c) : s.data.toList.head? = some c := by rw [List.head?_eq_getElem?, h]
theorem tail_drop (l : List UInt8) : l.drop 1 = l.tail := List.drop_one

theorem takeWhile_true (l : List UInt8) : l.takeWhile (fun _ => true) = l := (takeWhile_self _ _).2 (by simp)
theorem dropWhile_true (l : List UInt8) : l.dropWhile (fun _ => true) = [] := by
  have := List.takeWhile_append_dropWhile (p := fun _ => true) (l := l)
  rw [takeWhile_true] at this
  exact List.append_right_eq_self.1 this
theorem take1 {l : List UInt8} {c : UInt8} (h : l[0]? = some c) : l.take 1 = [c] := by
  cases l with
  | nil => simp at h
  | cons d m => simp at h; simp [h]
theorem take1_drop {l : List UInt8} {c : UInt8} (h : l[0]? = some c) : l.take 1 ++ l.drop 1 = l := List.take_append_drop 1 l
theorem serV_all {s : ByteArray} {c : UInt8} (h : series false (s.data.toList.drop 1) = true) (hc : s.data.toList[0]? = some c) :
    serV false (fun _ => true) s.data.toList = .tuple #[.string s, .string (B []), .bool true] := by
  unfold serV
  rw [takeWhile_true, if_pos h, dropWhile_true, take1_drop hc, B_of]

set_option maxHeartbeats 8000000 in
theorem parse_calls (s : ByteArray) (w : World) (hs : s.size ≤ 140737488351232) :
    Calls Tryd.prog 38 #[.string s] w fun e w' => ParseR s.data.toList e ∧ Gr w w' := by
  by_cases hz : s.size = 0
  · obtain rfl := size_zero hz
    have h1 := toList_nil
    go_enter Tryd.func38, Tryd.ntmps38
    go_wp2
    refine bodyPost_ret (v := .tuple #[.agg #[.string (B []), .string (B []), .string (B []), .string (B []), .string (B []), .string (B [])], .bool false]) (by simp [results, Tryd.results38, go_sem]; try (first | rfl | exact ⟨rfl, rfl, rfl⟩)) rfl ⟨ParseR_none (parse_no (by rw [B_data]; simp)) _ _ _ _ _ _, ?_⟩
    repeat (first | (with_reducible exact Gr.refl _) | (with_reducible apply Gr.setCell) | (with_reducible apply Gr.alloc) | (with_reducible apply Gr.drewN) | (with_reducible apply Gr.drew) | (with_reducible exact Nat.le_refl _))
  have hp : 0 < s.size := by omega
  have h1 := toList_ne hp
  obtain ⟨c, hc⟩ : ∃ c : UInt8, s[0]'hp = c := ⟨_, rfl⟩
  have H0 := Lib.hid (head_at (byte_at' s 0 hp hc))
  by_cases hv : c = 118
  case neg =>
    have hb : ((c.toNat : Int) != 118) = true := ne_nat' hv
    have HP := Lib.hid (parse_no (l := s.data.toList) (by rw [H0.out]; simpa using hv))
    clear hv
    go_enter Tryd.func38, Tryd.ntmps38
    go_wp2
    refine bodyPost_ret (v := .tuple #[.agg #[.string (B []), .string (B []), .string (B []), .string (B []), .string (B []), .string (B [])], .bool false]) (by simp [results, Tryd.results38, go_sem]; try (first | rfl | exact ⟨rfl, rfl, rfl⟩)) rfl ⟨ParseR_none HP.out _ _ _ _ _ _, ?_⟩
    repeat (first | (with_reducible exact Gr.refl _) | (with_reducible apply Gr.setCell) | (with_reducible apply Gr.alloc) | (with_reducible apply Gr.drewN) | (with_reducible apply Gr.drew) | (with_reducible exact Nat.le_refl _))
  have hb : ((c.toNat : Int) != 118) = false := by rw [hv]; rfl
  have HP := Lib.hid (parse_yes (l := s.data.toList) (by rw [H0.out, hv]))
  clear hv H0
  have hs1 : (s.extract 1 s.size).size ≤ 140737488351232 := by rw [cut1_size]; omega
  go_enter Tryd.func38, Tryd.ntmps38
  go_wp2_with fail
  cases hn1 : num s.data.toList.tail with
  | none =>
    have HN := Lib.hid hn1
    have HP1 : Hid (Ver.parse s.data.toList = none) := by show _ = _; rw [HP.out, hn1]; rfl
    clear hn1
    refine (parseInt_no _ hs1 (by rw [cut1]; exact HN.out)).mono ?_
    rintro e w' ⟨rfl, n1, rfl⟩
    go_wp2
    refine bodyPost_ret (v := .tuple #[.agg #[.string (B []), .string (B []), .string (B []), .string (B []), .string (B []), .string (B [])], .bool false]) (by simp [results, Tryd.results38, go_sem]; try (first | rfl | exact ⟨rfl, rfl, rfl⟩)) rfl ⟨ParseR_none HP1.out _ _ _ _ _ _, ?_⟩
    repeat (first | (with_reducible exact Gr.refl _) | (with_reducible apply Gr.setCell) | (with_reducible apply Gr.alloc) | (with_reducible apply Gr.drewN) | (with_reducible apply Gr.drew) | (with_reducible exact Nat.le_refl _))
  | some x =>
    obtain ⟨d1, r1⟩ := x
    obtain ⟨s1, rfl⟩ : ∃ s1 : ByteArray, r1 = s1.data.toList := ⟨B r1, (B_data r1).symm⟩
    have hl1 : s1.size ≤ 140737488351232 := by have := num_len hn1; rw [List.length_tail, ← Lib.size_eq, ← Lib.size_eq] at this; omega
    have HN := Lib.hid hn1
    have HP1 : Hid (Ver.parse s.data.toList = after1 d1 s1.data.toList) := by show _ = _; rw [HP.out, hn1]; rfl
    clear hn1 HP
    refine (parseInt_yes (t := s1) (d := d1) _ hs1 (by rw [cut1]; exact HN.out)).mono ?_
    rintro e w' ⟨rfl, n1, rfl⟩
    by_cases hz1 : s1.size = 0
    case pos =>
      obtain rfl := size_zero hz1
      have h11 := toList_nil
      have HP2 : Hid (Ver.parse s.data.toList = some ⟨d1, Ver.zero, Ver.zero, short2, [], []⟩) := by show _ = _; rw [HP1.out, B_data]; rfl
      go_wp2
      refine bodyPost_ret (v := .tuple #[.agg #[.string (B d1), .string (B Ver.zero), .string (B Ver.zero), .string (B short2), .string (B []), .string (B [])], .bool true]) (by simp [results, Tryd.results38, go_sem]; try (first | rfl | exact ⟨rfl, rfl, rfl⟩)) rfl ⟨ParseR_some HP2.out, ?_⟩
      repeat (first | (with_reducible exact Gr.refl _) | (with_reducible apply Gr.setCell) | (with_reducible apply Gr.alloc) | (with_reducible apply Gr.drewN) | (with_reducible apply Gr.drew) | (with_reducible exact Nat.le_refl _))
    have hp1 : 0 < s1.size := by omega
    have h11 := toList_ne hp1
    obtain ⟨c1, hc1⟩ : ∃ c : UInt8, s1[0]'hp1 = c := ⟨_, rfl⟩
    have H01 := Lib.hid (head_at (byte_at' s1 0 hp1 hc1))
    by_cases hv1 : c1 = 46
    case neg =>
      have hb1 : ((c1.toNat : Int) != 46) = true := ne_nat' hv1
      have HP2 : Hid (Ver.parse s.data.toList = none) := by show _ = _; rw [HP1.out, after1_no H01.out hv1]
      clear hv1
      go_wp2
      refine bodyPost_ret (v := .tuple #[.agg #[.string (B d1), .string (B []), .string (B []), .string (B []), .string (B []), .string (B [])], .bool false]) (by simp [results, Tryd.results38, go_sem]; try (first | rfl | exact ⟨rfl, rfl, rfl⟩)) rfl ⟨ParseR_none HP2.out _ _ _ _ _ _, ?_⟩
      repeat (first | (with_reducible exact Gr.refl _) | (with_reducible apply Gr.setCell) | (with_reducible apply Gr.alloc) | (with_reducible apply Gr.drewN) | (with_reducible apply Gr.drew) | (with_reducible exact Nat.le_refl _))
    have hb1 : ((c1.toNat : Int) != 46) = false := by rw [hv1]; rfl
    have HP2 : Hid (Ver.parse s.data.toList = (num s1.data.toList.tail).bind fun y => after2 d1 y.1 y.2) := by show _ = _; rw [HP1.out, after1_yes (by rw [H01.out, hv1])]
    clear hv1 H01 HP1
    have hs2 : (s1.extract 1 s1.size).size ≤ 140737488351232 := by rw [cut1_size]; omega
    go_wp2_with fail
    cases hn2 : num s1.data.toList.tail with
    | none =>
      have HN2 := Lib.hid hn2
      have HP3 : Hid (Ver.parse s.data.toList = none) := by show _ = _; rw [HP2.out, hn2]; rfl
      clear hn2
      refine (parseInt_no _ hs2 (by rw [cut1]; exact HN2.out)).mono ?_
      rintro e w' ⟨rfl, n2, rfl⟩
      go_wp2
      refine bodyPost_ret (v := .tuple #[.agg #[.string (B d1), .string (B []), .string (B []), .string (B []), .string (B []), .string (B [])], .bool false]) (by simp [results, Tryd.results38, go_sem]; try (first | rfl | exact ⟨rfl, rfl, rfl⟩)) rfl ⟨ParseR_none HP3.out _ _ _ _ _ _, ?_⟩
      repeat (first | (with_reducible exact Gr.refl _) | (with_reducible apply Gr.setCell) | (with_reducible apply Gr.alloc) | (with_reducible apply Gr.drewN) | (with_reducible apply Gr.drew) | (with_reducible exact Nat.le_refl _))
    | some x =>
      obtain ⟨d2, r2⟩ := x
      obtain ⟨s2, rfl⟩ : ∃ s2 : ByteArray, r2 = s2.data.toList := ⟨B r2, (B_data r2).symm⟩
      have hl2 : s2.size ≤ 140737488351232 := by have := num_len hn2; rw [List.length_tail, ← Lib.size_eq, ← Lib.size_eq] at this; omega
      have HN2 := Lib.hid hn2
      have HP3 : Hid (Ver.parse s.data.toList = after2 d1 d2 s2.data.toList) := by show _ = _; rw [HP2.out, hn2]; rfl
      clear hn2 HP2
      refine (parseInt_yes (t := s2) (d := d2) _ hs2 (by rw [cut1]; exact HN2.out)).mono ?_
      rintro e w' ⟨rfl, n2, rfl⟩
      by_cases hz2 : s2.size = 0
      case pos =>
        obtain rfl := size_zero hz2
        have h12 := toList_nil
        have HP4 : Hid (Ver.parse s.data.toList = some ⟨d1, d2, Ver.zero, short1, [], []⟩) := by show _ = _; rw [HP3.out, B_data]; rfl
        go_wp2
        refine bodyPost_ret (v := .tuple #[.agg #[.string (B d1), .string (B d2), .string (B Ver.zero), .string (B short1), .string (B []), .string (B [])], .bool true]) (by simp [results, Tryd.results38, go_sem]; try (first | rfl | exact ⟨rfl, rfl, rfl⟩)) rfl ⟨ParseR_some HP4.out, ?_⟩
        repeat (first | (with_reducible exact Gr.refl _) | (with_reducible apply Gr.setCell) | (with_reducible apply Gr.alloc) | (with_reducible apply Gr.drewN) | (with_reducible apply Gr.drew) | (with_reducible exact Nat.le_refl _))
      have hp2 : 0 < s2.size := by omega
      have h12 := toList_ne hp2
      obtain ⟨c2, hc2⟩ : ∃ c : UInt8, s2[0]'hp2 = c := ⟨_, rfl⟩
      have H02 := Lib.hid (head_at (byte_at' s2 0 hp2 hc2))
      by_cases hv2 : c2 = 46
      case neg =>
        have hb2 : ((c2.toNat : Int) != 46) = true := ne_nat' hv2
        have HP4 : Hid (Ver.parse s.data.toList = none) := by show _ = _; rw [HP3.out, after2_no H02.out hv2]
        clear hv2
        go_wp2
        refine bodyPost_ret (v := .tuple #[.agg #[.string (B d1), .string (B d2), .string (B []), .string (B []), .string (B []), .string (B [])], .bool false]) (by simp [results, Tryd.results38, go_sem]; try (first | rfl | exact ⟨rfl, rfl, rfl⟩)) rfl ⟨ParseR_none HP4.out _ _ _ _ _ _, ?_⟩
        repeat (first | (with_reducible exact Gr.refl _) | (with_reducible apply Gr.setCell) | (with_reducible apply Gr.alloc) | (with_reducible apply Gr.drewN) | (with_reducible apply Gr.drew) | (with_reducible exact Nat.le_refl _))
      have hb2 : ((c2.toNat : Int) != 46) = false := by rw [hv2]; rfl
      have HP4 : Hid (Ver.parse s.data.toList = (num s2.data.toList.tail).bind fun y => Ver.rest d1 d2 y.1 y.2) := by show _ = _; rw [HP3.out, after2_yes (by rw [H02.out, hv2])]
      clear hv2 H02 HP3
      have hs3 : (s2.extract 1 s2.size).size ≤ 140737488351232 := by rw [cut1_size]; omega
      go_wp2_with fail
      cases hn3 : num s2.data.toList.tail with
      | none =>
        have HN3 := Lib.hid hn3
        have HP5 : Hid (Ver.parse s.data.toList = none) := by show _ = _; rw [HP4.out, hn3]; rfl
        clear hn3
        refine (parseInt_no _ hs3 (by rw [cut1]; exact HN3.out)).mono ?_
        rintro e w' ⟨rfl, n3, rfl⟩
        go_wp2
        refine bodyPost_ret (v := .tuple #[.agg #[.string (B d1), .string (B d2), .string (B []), .string (B []), .string (B []), .string (B [])], .bool false]) (by simp [results, Tryd.results38, go_sem]; try (first | rfl | exact ⟨rfl, rfl, rfl⟩)) rfl ⟨ParseR_none HP5.out _ _ _ _ _ _, ?_⟩
        repeat (first | (with_reducible exact Gr.refl _) | (with_reducible apply Gr.setCell) | (with_reducible apply Gr.alloc) | (with_reducible apply Gr.drewN) | (with_reducible apply Gr.drew) | (with_reducible exact Nat.le_refl _))
      | some x =>
        obtain ⟨d3, r3⟩ := x
        obtain ⟨s3, rfl⟩ : ∃ s3 : ByteArray, r3 = s3.data.toList := ⟨B r3, (B_data r3).symm⟩
        have hl3 : s3.size ≤ 140737488351232 := by have := num_len hn3; rw [List.length_tail, ← Lib.size_eq, ← Lib.size_eq] at this; omega
        have HN3 := Lib.hid hn3
        have HP5 : Hid (Ver.parse s.data.toList = Ver.rest d1 d2 d3 s3.data.toList) := by show _ = _; rw [HP4.out, hn3]; rfl
        clear hn3 HP4
        refine (parseInt_yes (t := s3) (d := d3) _ hs3 (by rw [cut1]; exact HN3.out)).mono ?_
        rintro e w' ⟨rfl, n3, rfl⟩
        clear HN HN2 HN3 hs1 hs2 hs3 h1 hb h11 hb1 h12 hb2 hc hc1 hc2
        by_cases hz3 : s3.size = 0
        case pos =>
          obtain rfl := size_zero hz3
          have h13 := toList_nil
          have h13' : ((B []).toList != ([] : List UInt8)) = false := by rw [B_list]; rfl
          have h13s : (B []).size = 0 := hz3
          have HP6 : Hid (Ver.parse s.data.toList = some ⟨d1, d2, d3, [], [], []⟩) := by show _ = _; rw [HP5.out, B_data, rest_plain (by simp)]; rfl
          go_wp2
          refine bodyPost_ret (v := .tuple #[.agg #[.string (B d1), .string (B d2), .string (B d3), .string (B []), .string (B []), .string (B [])], .bool true]) (by simp [results, Tryd.results38, go_sem]; try (first | rfl | exact ⟨rfl, rfl, rfl⟩)) rfl ⟨ParseR_some HP6.out, ?_⟩
          repeat (first | (with_reducible exact Gr.refl _) | (with_reducible apply Gr.setCell) | (with_reducible apply Gr.alloc) | (with_reducible apply Gr.drewN) | (with_reducible apply Gr.drew) | (with_reducible exact Nat.le_refl _))
        have hp3 : 0 < s3.size := by omega
        have h13 := toList_ne hp3
        have h13' : (s3.toList != ([] : List UInt8)) = true := by rw [bne, h13]; rfl
        obtain ⟨c3, hc3⟩ : ∃ c : UInt8, s3[0]'hp3 = c := ⟨_, rfl⟩
        have H03 := Lib.hid (head_at (byte_at' s3 0 hp3 hc3))
        by_cases hv3 : c3 = 45
        case neg =>
          have hb3 : ((c3.toNat : Int) == 45) = false := ne_nat hv3
          have HP6 : Hid (Ver.parse s.data.toList = Ver.tail d1 d2 d3 [] s3.data.toList) := by show _ = _; rw [HP5.out, rest_plain (by rw [H03.out]; simpa using hv3)]
          clear hv3 HP5
          by_cases hpl : c3 = 43
          case neg =>
            have hbq : ((c3.toNat : Int) == 43) = false := ne_nat hpl
            have HQ : Hid (Ver.parse s.data.toList = none) := by show _ = _; rw [HP6.out, tail_no (by intro e; have := H03.out; rw [e] at this; cases this) (by rw [H03.out]; simp [hpl])]
            clear hpl
            go_wp2
            refine bodyPost_ret (v := .tuple #[.agg #[.string (B d1), .string (B d2), .string (B d3), .string (B []), .string (B []), .string (B [])], .bool false]) (by simp [results, Tryd.results38, go_sem]; try (first | rfl | exact ⟨rfl, rfl, rfl⟩)) rfl ⟨ParseR_none HQ.out _ _ _ _ _ _, ?_⟩
            repeat (first | (with_reducible exact Gr.refl _) | (with_reducible apply Gr.setCell) | (with_reducible apply Gr.alloc) | (with_reducible apply Gr.drewN) | (with_reducible apply Gr.drew) | (with_reducible exact Nat.le_refl _))
          have hbq : ((c3.toNat : Int) == 43) = true := by rw [hpl]; rfl
          have H43 : Hid (s3.data.toList.head? = some 43) := by show _ = _; rw [H03.out, hpl]
          have H43' : Hid (s3.data.toList[0]? = some 43) := by show _ = _; rw [← List.head?_eq_getElem?]; exact H43.out
          clear hpl
          go_wp2_with fail
          refine (parseBuild_calls _ H43'.out _ hl3).mono ?_
          rintro e w' ⟨rfl, n5, rfl⟩
          cases hsr : series false (s3.data.toList.drop 1) with
          | false =>
            have HQ : Hid (Ver.parse s.data.toList = none) := by show _ = _; rw [HP6.out, tail_no (by intro e; have := H03.out; rw [e] at this; cases this) (by rw [← tail_drop, hsr]; simp)]
            have HV := serV_bad (strict := false) (q := fun _ => true) (l := s3.data.toList) (by rw [takeWhile_true]; exact hsr)
            rw [HV]
            clear hsr HV
            go_wp2
            refine bodyPost_ret (v := .tuple #[.agg #[.string (B d1), .string (B d2), .string (B d3), .string (B []), .string (B []), .string (B [])], .bool false]) (by simp [results, Tryd.results38, go_sem]; try (first | rfl | exact ⟨rfl, rfl, rfl⟩)) rfl ⟨ParseR_none HQ.out _ _ _ _ _ _, ?_⟩
            repeat (first | (with_reducible exact Gr.refl _) | (with_reducible apply Gr.setCell) | (with_reducible apply Gr.alloc) | (with_reducible apply Gr.drewN) | (with_reducible apply Gr.drew) | (with_reducible exact Nat.le_refl _))
          | true =>
            have HQ : Hid (Ver.parse s.data.toList = some ⟨d1, d2, d3, [], [], s3.data.toList⟩) := by show _ = _; rw [HP6.out, tail_yes H43.out (by rw [← tail_drop]; exact hsr)]
            have HV : serV false (fun _ => true) s3.data.toList = .tuple #[.string s3, .string (B []), .bool true] := serV_all hsr (by rw [← List.head?_eq_getElem?]; exact H43.out)
            rw [HV]
            have h14 := toList_nil
            have h14' : ((B []).toList != ([] : List UInt8)) = false := by rw [B_list]; rfl
            clear hsr HV
            go_wp2
            refine bodyPost_ret (v := .tuple #[.agg #[.string (B d1), .string (B d2), .string (B d3), .string (B []), .string (B []), .string s3], .bool true]) (by simp [results, Tryd.results38, go_sem]; try (first | rfl | exact ⟨rfl, rfl, rfl⟩)) rfl ⟨by have := ParseR_some HQ.out; simp only [B_of] at this; exact this, ?_⟩
            repeat (first | (with_reducible exact Gr.refl _) | (with_reducible apply Gr.setCell) | (with_reducible apply Gr.alloc) | (with_reducible apply Gr.drewN) | (with_reducible apply Gr.drew) | (with_reducible exact Nat.le_refl _))
        have hb3 : ((c3.toNat : Int) == 45) = true := by rw [hv3]; rfl
        have H45 : Hid (s3.data.toList.head? = some 45) := by show _ = _; rw [H03.out, hv3]
        have H45' : Hid (s3.data.toList[0]? = some 45) := by show _ = _; rw [← List.head?_eq_getElem?]; exact H45.out
        have HP6 : Hid (Ver.parse s.data.toList = if series true (s3.data.toList.tail.takeWhile (· != 43)) = true then Ver.tail d1 d2 d3 (45 :: s3.data.toList.tail.takeWhile (· != 43)) (s3.data.toList.tail.dropWhile (· != 43)) else none) := by show _ = _; rw [HP5.out, rest_dash H45.out]
        clear hv3 HP5 H03
        go_wp2_with fail
        refine (parsePrerelease_calls _ H45'.out _ hl3).mono ?_
        rintro e w' ⟨rfl, n4, rfl⟩
        cases hsr : series true (s3.data.toList.tail.takeWhile (· != 43)) with
        | false =>
          have HQ : Hid (Ver.parse s.data.toList = none) := by show _ = _; rw [HP6.out, hsr]; rfl
          have HV := serV_bad (strict := true) (q := (· != 43)) (l := s3.data.toList) (by rw [tail_drop]; exact hsr)
          rw [HV]
          clear hsr HV
          go_wp2
          refine bodyPost_ret (v := .tuple #[.agg #[.string (B d1), .string (B d2), .string (B d3), .string (B []), .string (B []), .string (B [])], .bool false]) (by simp [results, Tryd.results38, go_sem]; try (first | rfl | exact ⟨rfl, rfl, rfl⟩)) rfl ⟨ParseR_none HQ.out _ _ _ _ _ _, ?_⟩
          repeat (first | (with_reducible exact Gr.refl _) | (with_reducible apply Gr.setCell) | (with_reducible apply Gr.alloc) | (with_reducible apply Gr.drewN) | (with_reducible apply Gr.drew) | (with_reducible exact Nat.le_refl _))
        | true =>
          obtain ⟨s4, hs4⟩ : ∃ s4 : ByteArray, s3.data.toList.tail.dropWhile (· != 43) = s4.data.toList := ⟨B _, (B_data _).symm⟩
          have HP7 : Hid (Ver.parse s.data.toList = Ver.tail d1 d2 d3 (45 :: s3.data.toList.tail.takeWhile (· != 43)) s4.data.toList) := by show _ = _; rw [HP6.out, hsr, if_pos rfl, hs4]
          obtain ⟨pr, hpr⟩ : ∃ pr, s3.data.toList.tail.takeWhile (· != 43) = pr := ⟨_, rfl⟩
          have hl4 : s4.size ≤ 140737488351232 := by
            have := (List.dropWhile_sublist (· != 43) (l := s3.data.toList.tail)).length_le
            rw [hs4, List.length_tail, ← Lib.size_eq, ← Lib.size_eq] at this; omega
          have HV : serV true (· != 43) s3.data.toList = .tuple #[.string (B (45 :: pr)), .string s4, .bool true] := by
            unfold serV
            rw [tail_drop, hsr, if_pos rfl, hpr, hs4, B_of, take1 H45'.out]; rfl
          rw [HV]
          rw [hpr] at HP7
          clear hsr HV hpr hs4 HP6 H45 H45' hc3 h13 h13' hb3
          by_cases hz4 : s4.size = 0
          case pos =>
            obtain rfl := size_zero hz4
            have h14 := toList_nil
            have h14' : ((B []).toList != ([] : List UInt8)) = false := by rw [B_list]; rfl
            have h14s : (B []).size = 0 := hz4
            have HQ : Hid (Ver.parse s.data.toList = some ⟨d1, d2, d3, [], 45 :: pr, []⟩) := by show _ = _; rw [HP7.out, B_data]; rfl
            go_wp2
            refine bodyPost_ret (v := .tuple #[.agg #[.string (B d1), .string (B d2), .string (B d3), .string (B []), .string (B (45 :: pr)), .string (B [])], .bool true]) (by simp [results, Tryd.results38, go_sem]; try (first | rfl | exact ⟨rfl, rfl, rfl⟩)) rfl ⟨ParseR_some HQ.out, ?_⟩
            repeat (first | (with_reducible exact Gr.refl _) | (with_reducible apply Gr.setCell) | (with_reducible apply Gr.alloc) | (with_reducible apply Gr.drewN) | (with_reducible apply Gr.drew) | (with_reducible exact Nat.le_refl _))
          have hp4 : 0 < s4.size := by omega
          have h14 := toList_ne hp4
          have h14' : (s4.toList != ([] : List UInt8)) = true := by rw [bne, h14]; rfl
          obtain ⟨c4, hc4⟩ : ∃ c : UInt8, s4[0]'hp4 = c := ⟨_, rfl⟩
          have H04 := Lib.hid (head_at (byte_at' s4 0 hp4 hc4))
          by_cases hpl : c4 = 43
          case neg =>
            have hbq : ((c4.toNat : Int) == 43) = false := ne_nat hpl
            have HQ : Hid (Ver.parse s.data.toList = none) := by show _ = _; rw [HP7.out, tail_no (by intro e; have := H04.out; rw [e] at this; cases this) (by rw [H04.out]; simp [hpl])]
            clear hpl
            go_wp2
            refine bodyPost_ret (v := .tuple #[.agg #[.string (B d1), .string (B d2), .string (B d3), .string (B []), .string (B (45 :: pr)), .string (B [])], .bool false]) (by simp [results, Tryd.results38, go_sem]; try (first | rfl | exact ⟨rfl, rfl, rfl⟩)) rfl ⟨ParseR_none HQ.out _ _ _ _ _ _, ?_⟩
            repeat (first | (with_reducible exact Gr.refl _) | (with_reducible apply Gr.setCell) | (with_reducible apply Gr.alloc) | (with_reducible apply Gr.drewN) | (with_reducible apply Gr.drew) | (with_reducible exact Nat.le_refl _))
          have hbq : ((c4.toNat : Int) == 43) = true := by rw [hpl]; rfl
          have H43 : Hid (s4.data.toList.head? = some 43) := by show _ = _; rw [H04.out, hpl]
          have H43' : Hid (s4.data.toList[0]? = some 43) := by show _ = _; rw [← List.head?_eq_getElem?]; exact H43.out
          clear hpl
          go_wp2_with fail
          refine (parseBuild_calls _ H43'.out _ hl4).mono ?_
          rintro e w' ⟨rfl, n5, rfl⟩
          cases hsr : series false (s4.data.toList.drop 1) with
          | false =>
            have HQ : Hid (Ver.parse s.data.toList = none) := by show _ = _; rw [HP7.out, tail_no (by intro e; have := H04.out; rw [e] at this; cases this) (by rw [← tail_drop, hsr]; simp)]
            have HV := serV_bad (strict := false) (q := fun _ => true) (l := s4.data.toList) (by rw [takeWhile_true]; exact hsr)
            rw [HV]
            clear hsr HV
            go_wp2
            refine bodyPost_ret (v := .tuple #[.agg #[.string (B d1), .string (B d2), .string (B d3), .string (B []), .string (B (45 :: pr)), .string (B [])], .bool false]) (by simp [results, Tryd.results38, go_sem]; try (first | rfl | exact ⟨rfl, rfl, rfl⟩)) rfl ⟨ParseR_none HQ.out _ _ _ _ _ _, ?_⟩
            repeat (first | (with_reducible exact Gr.refl _) | (with_reducible apply Gr.setCell) | (with_reducible apply Gr.alloc) | (with_reducible apply Gr.drewN) | (with_reducible apply Gr.drew) | (with_reducible exact Nat.le_refl _))
          | true =>
            have HQ : Hid (Ver.parse s.data.toList = some ⟨d1, d2, d3, [], 45 :: pr, s4.data.toList⟩) := by show _ = _; rw [HP7.out, tail_yes H43.out (by rw [← tail_drop]; exact hsr)]
            have HV : serV false (fun _ => true) s4.data.toList = .tuple #[.string s4, .string (B []), .bool true] := serV_all hsr (by rw [← List.head?_eq_getElem?]; exact H43.out)
            rw [HV]
            have h14 := toList_nil
            have h14' : ((B []).toList != ([] : List UInt8)) = false := by rw [B_list]; rfl
            clear hsr HV
            go_wp2
            refine bodyPost_ret (v := .tuple #[.agg #[.string (B d1), .string (B d2), .string (B d3), .string (B []), .string (B (45 :: pr)), .string s4], .bool true]) (by simp [results, Tryd.results38, go_sem]; try (first | rfl | exact ⟨rfl, rfl, rfl⟩)) rfl ⟨by have := ParseR_some HQ.out; simp only [B_of] at this; exact this, ?_⟩
            repeat (first | (with_reducible exact Gr.refl _) | (with_reducible apply Gr.setCell) | (with_reducible apply Gr.alloc) | (with_reducible apply Gr.drewN) | (with_reducible apply Gr.drew) | (with_reducible exact Nat.le_refl _))
#print axioms parse_calls
end Go.Proofs.YtppnjkfeefmohaaDoor
