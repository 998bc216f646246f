/- The walk of the reference's Parse: what a text is as a version. -/
import Derived.Test.YtppnjkfeefmohaaDoorSpB
namespace Go.Proofs.YtppnjkfeefmohaaDoor
open Go.RowKit Str Ver
set_option linter.unusedVariables false

/-- what Parse hands back: the parts, and whether the text is a version; of what is none, nothing -/
def ParseS (l : List UInt8) (e : Ending) : Prop :=
  match Ver.parse l with
  | some v => e = .returned (.tuple #[.agg #[.string (B v.major), .string (B v.minor), .string (B v.patch), .string (B v.short), .string (B v.pre), .string (B v.build)], .bool true])
  | none => e = .returned (.tuple #[.agg #[.string (B []), .string (B []), .string (B []), .string (B []), .string (B []), .string (B [])], .bool false])

theorem ParseS_none {l : List UInt8} (h : Ver.parse l = none) : ParseS l (.returned (.tuple #[.agg #[.string (B []), .string (B []), .string (B []), .string (B []), .string (B []), .string (B [])], .bool false])) := by
  unfold ParseS; rw [h]
theorem ParseS_some {l : List UInt8} {v : V} (h : Ver.parse l = some v) : ParseS l (.returned (.tuple #[.agg #[.string (B v.major), .string (B v.minor), .string (B v.patch), .string (B v.short), .string (B v.pre), .string (B v.build)], .bool true])) := by
  unfold ParseS; rw [h]

theorem number_no {s : ByteArray} {a : Nat} (w : World) (hs : s.size ≤ 140737488351232) (ha : a ≤ s.size) (h : num (s.data.toList.drop a) = none) :
    Calls Tryd.prog 28 #[.string s, .int .i64 a] w fun e w' => e = .returned (.int .i64 (-1)) ∧ w = w' :=
  (number_calls s a w hs ha).mono fun e w' ⟨p, q⟩ => ⟨by rw [p]; unfold numV; rw [h], q⟩
theorem number_yes {s : ByteArray} {a k : Nat} {d r : List UInt8} (w : World) (hs : s.size ≤ 140737488351232) (ha : a ≤ s.size) (h : num (s.data.toList.drop a) = some (d, r)) (hk : k = a + d.length) :
    Calls Tryd.prog 28 #[.string s, .int .i64 a] w fun e w' => e = .returned (.int .i64 k) ∧ w = w' :=
  (number_calls s a w hs ha).mono fun e w' ⟨p, q⟩ => ⟨by rw [p]; unfold numV; rw [h, hk], q⟩

/-- where a number ends -/
structure NumAt (s : ByteArray) (a k : Nat) (d r : List UInt8) : Prop where
  le : k ≤ s.size
  ak : a ≤ k
  cut : s.extract a k = B d
  rest : s.data.toList.drop k = r

theorem NumAt.mk' {s : ByteArray} {a : Nat} {d r : List UInt8} (ha : a ≤ s.size) (h : num (s.data.toList.drop a) = some (d, r)) : NumAt s a (a + d.length) d r := by
  have hs := num_split h
  have hl := congrArg List.length hs
  rw [List.length_drop, ← Lib.size_eq, List.length_append] at hl
  refine ⟨by omega, by omega, ?_, ?_⟩
  · refine Str.of_data ?_
    rw [Lib.extract_data, B_data, hs, Nat.add_sub_cancel_left, List.take_left]
  · rw [← List.drop_drop, hs, List.drop_left]

theorem NumAt.nil {s : ByteArray} {a k : Nat} {d r : List UInt8} (h : NumAt s a k d r) : r = [] ↔ k = s.size := by
  have h1 := h.rest
  have h2 := congrArg List.length h1
  rw [List.length_drop, ← Lib.size_eq] at h2
  have h3 := h.le
  constructor
  · intro e; rw [e] at h2; simp at h2; omega
  · intro e; apply List.eq_nil_of_length_eq_zero; omega

theorem NumAt.head {s : ByteArray} {a k : Nat} {d r : List UInt8} (h : NumAt s a k d r) (hk : k < s.size) : r.head? = some s[k] ∧ s.data.toList.drop (k + 1) = r.tail := by
  have h1 := h.rest
  rw [← h1]
  refine ⟨?_, ?_⟩
  · rw [List.head?_drop]; exact byte_at s k hk
  · rw [List.tail_drop]

set_option maxHeartbeats 8000000 in
theorem Parse_calls (s : ByteArray) (w : World) (hs : s.size ≤ 140737488351232) :
    Calls Tryd.prog 15 #[.string s] w fun e w' => ParseS s.data.toList e ∧ Gr w w' := by
  by_cases hz : s.size = 0
  · obtain rfl := size_zero hz
    have h1 : (((B []).size : Int) == 0) = true := by rw [B_size]; rfl
    go_enter Tryd.func15, Tryd.ntmps15
    go_wp2
    refine bodyPost_ret (v := .tuple #[.agg #[.string (B []), .string (B []), .string (B []), .string (B []), .string (B []), .string (B [])], .bool false]) (by simp [results, Tryd.results15, go_sem]; try (first | rfl | exact ⟨rfl, rfl, rfl⟩)) rfl ⟨ParseS_none (parse_no (by rw [B_data]; simp)), ?_⟩
    repeat (first | (with_reducible exact Gr.refl _) | (with_reducible exact Gr.of_drew ‹_›) | (with_reducible apply Gr.setCell) | (with_reducible apply Gr.alloc) | (with_reducible apply Gr.drewN) | (with_reducible apply Gr.drew) | (with_reducible exact Nat.le_refl _) | (show _ ≤ (_ : Nat); simp))
  have hp : 0 < s.size := by omega
  have h1 : ((s.size : Int) == 0) = false := by rw [beq_eq_false_iff_ne]; omega
  obtain ⟨c, hc⟩ : ∃ c : UInt8, s[0]'hp = c := ⟨_, rfl⟩
  have H0 := Lib.hid (head_at (byte_at' s 0 hp hc))
  by_cases hv : c = 118
  case neg =>
    have hb : ((c.toNat : Int) != 118) = true := ne_nat' hv
    have HP := Lib.hid (parse_no (l := s.data.toList) (by rw [H0.out]; simpa using hv))
    clear hv
    go_enter Tryd.func15, Tryd.ntmps15
    go_wp2
    refine bodyPost_ret (v := .tuple #[.agg #[.string (B []), .string (B []), .string (B []), .string (B []), .string (B []), .string (B [])], .bool false]) (by simp [results, Tryd.results15, go_sem]; try (first | rfl | exact ⟨rfl, rfl, rfl⟩)) rfl ⟨ParseS_none HP.out, ?_⟩
    repeat (first | (with_reducible exact Gr.refl _) | (with_reducible exact Gr.of_drew ‹_›) | (with_reducible apply Gr.setCell) | (with_reducible apply Gr.alloc) | (with_reducible apply Gr.drewN) | (with_reducible apply Gr.drew) | (with_reducible exact Nat.le_refl _) | (show _ ≤ (_ : Nat); simp))
  have hb : ((c.toNat : Int) != 118) = false := by rw [hv]; rfl
  have HP := Lib.hid (parse_yes (l := s.data.toList) (by rw [H0.out, hv]))
  clear hv H0
  go_enter Tryd.func15, Tryd.ntmps15
  go_wp2_with fail
  cases hn1 : num s.data.toList.tail with
  | none =>
    have HN : Hid (num (s.data.toList.drop 1) = none) := by show _ = _; rw [tail_drop]; exact hn1
    have HP1 : Hid (Ver.parse s.data.toList = none) := by show _ = _; rw [HP.out, hn1]; rfl
    clear hn1
    refine (number_no (a := 1) _ hs hp HN.out).mono ?_
    rintro e w' ⟨rfl, rfl⟩
    go_wp2
    refine bodyPost_ret (v := .tuple #[.agg #[.string (B []), .string (B []), .string (B []), .string (B []), .string (B []), .string (B [])], .bool false]) (by simp [results, Tryd.results15, go_sem]; try (first | rfl | exact ⟨rfl, rfl, rfl⟩)) rfl ⟨ParseS_none HP1.out, ?_⟩
    repeat (first | (with_reducible exact Gr.refl _) | (with_reducible exact Gr.of_drew ‹_›) | (with_reducible apply Gr.setCell) | (with_reducible apply Gr.alloc) | (with_reducible apply Gr.drewN) | (with_reducible apply Gr.drew) | (with_reducible exact Nat.le_refl _) | (show _ ≤ (_ : Nat); simp))
  | some x =>
    obtain ⟨d1, r1⟩ := x
    have hn1' : num (s.data.toList.drop 1) = some (d1, r1) := by rw [tail_drop]; exact hn1
    have N1 := NumAt.mk' hp hn1'
    obtain ⟨k1, hk1⟩ : ∃ k1, 1 + d1.length = k1 := ⟨_, rfl⟩
    rw [hk1] at N1
    have HN := Lib.hid hn1'
    have HK1 := Lib.hid hk1.symm
    have HP1 : Hid (Ver.parse s.data.toList = after1 d1 r1) := by show _ = _; rw [HP.out, hn1]; rfl
    clear hn1 hn1' hk1 HP
    refine (number_yes (a := 1) (k := k1) _ hs hp HN.out HK1.out).mono ?_
    rintro e w' ⟨rfl, rfl⟩
    clear HN HK1
    have x1 := N1.cut
    have le1 := N1.le
    have ge1 := N1.ak
    have HA1 := Lib.hid N1
    by_cases hz1 : k1 = s.size
    case pos =>
      have he1 : ((k1 : Int) == (s.size : Int)) = true := by rw [beq_iff_eq]; omega
      have HP2 : Hid (Ver.parse s.data.toList = some ⟨d1, Ver.zero, Ver.zero, short2, [], []⟩) := by show _ = _; rw [HP1.out, (N1.nil).2 hz1]; rfl
      clear N1 HA1 hz1 HP1
      go_wp2
      refine bodyPost_ret (v := .tuple #[.agg #[.string (B d1), .string (B Ver.zero), .string (B Ver.zero), .string (B short2), .string (B []), .string (B [])], .bool true]) (by simp [results, Tryd.results15, go_sem]; try (first | rfl | exact ⟨rfl, rfl, rfl⟩)) rfl ⟨ParseS_some HP2.out, ?_⟩
      repeat (first | (with_reducible exact Gr.refl _) | (with_reducible exact Gr.of_drew ‹_›) | (with_reducible apply Gr.setCell) | (with_reducible apply Gr.alloc) | (with_reducible apply Gr.drewN) | (with_reducible apply Gr.drew) | (with_reducible exact Nat.le_refl _) | (show _ ≤ (_ : Nat); simp))
    have he1 : ((k1 : Int) == (s.size : Int)) = false := by rw [beq_eq_false_iff_ne]; omega
    have hlt1 : k1 < s.size := by omega
    obtain ⟨c1, hc1⟩ : ∃ c : UInt8, s[k1]'hlt1 = c := ⟨_, rfl⟩
    obtain ⟨hh1, ht1⟩ := N1.head hlt1
    rw [hc1] at hh1
    have H01 := Lib.hid hh1
    have HT1 := Lib.hid ht1
    clear N1 hh1 ht1 hz1
    by_cases hv1 : c1 = 46
    case neg =>
      have hb1 : ((c1.toNat : Int) != 46) = true := ne_nat' hv1
      have HP2 : Hid (Ver.parse s.data.toList = none) := by show _ = _; rw [HP1.out, after1_no H01.out hv1]
      clear hv1
      go_wp2
      refine bodyPost_ret (v := .tuple #[.agg #[.string (B []), .string (B []), .string (B []), .string (B []), .string (B []), .string (B [])], .bool false]) (by simp [results, Tryd.results15, go_sem]; try (first | rfl | exact ⟨rfl, rfl, rfl⟩)) rfl ⟨ParseS_none HP2.out, ?_⟩
      repeat (first | (with_reducible exact Gr.refl _) | (with_reducible exact Gr.of_drew ‹_›) | (with_reducible apply Gr.setCell) | (with_reducible apply Gr.alloc) | (with_reducible apply Gr.drewN) | (with_reducible apply Gr.drew) | (with_reducible exact Nat.le_refl _) | (show _ ≤ (_ : Nat); simp))
    have hb1 : ((c1.toNat : Int) != 46) = false := by rw [hv1]; rfl
    have HP2 : Hid (Ver.parse s.data.toList = (num (s.data.toList.drop (k1 + 1))).bind fun y => after2 d1 y.1 y.2) := by show _ = _; rw [HP1.out, after1_yes (by rw [H01.out, hv1]), HT1.out]
    clear hv1 H01 HP1 HT1
    go_wp2_with fail
    cases hn2 : num (s.data.toList.drop (k1 + 1)) with
    | none =>
      have HN2 := Lib.hid hn2
      have HP3 : Hid (Ver.parse s.data.toList = none) := by show _ = _; rw [HP2.out, hn2]; rfl
      clear hn2
      refine (number_no (a := k1 + 1) _ hs hlt1 HN2.out).mono ?_
      rintro e w' ⟨rfl, rfl⟩
      go_wp2
      refine bodyPost_ret (v := .tuple #[.agg #[.string (B []), .string (B []), .string (B []), .string (B []), .string (B []), .string (B [])], .bool false]) (by simp [results, Tryd.results15, go_sem]; try (first | rfl | exact ⟨rfl, rfl, rfl⟩)) rfl ⟨ParseS_none HP3.out, ?_⟩
      repeat (first | (with_reducible exact Gr.refl _) | (with_reducible exact Gr.of_drew ‹_›) | (with_reducible apply Gr.setCell) | (with_reducible apply Gr.alloc) | (with_reducible apply Gr.drewN) | (with_reducible apply Gr.drew) | (with_reducible exact Nat.le_refl _) | (show _ ≤ (_ : Nat); simp))
    | some x =>
      obtain ⟨d2, r2⟩ := x
      have N2 := NumAt.mk' hlt1 hn2
      obtain ⟨k2, hk2⟩ : ∃ k2, k1 + 1 + d2.length = k2 := ⟨_, rfl⟩
      rw [hk2] at N2
      have HN := Lib.hid hn2
      have HK2 := Lib.hid hk2.symm
      have HP3 : Hid (Ver.parse s.data.toList = after2 d1 d2 r2) := by show _ = _; rw [HP2.out, hn2]; rfl
      clear hn2 hk2 HP2
      refine (number_yes (a := k1 + 1) (k := k2) _ hs hlt1 HN.out HK2.out).mono ?_
      rintro e w' ⟨rfl, rfl⟩
      clear HN HK2
      have x2 := N2.cut
      have le2 := N2.le
      have ge2 := N2.ak
      by_cases hz2 : k2 = s.size
      case pos =>
        have he2 : ((k2 : Int) == (s.size : Int)) = true := by rw [beq_iff_eq]; omega
        have HP4 : Hid (Ver.parse s.data.toList = some ⟨d1, d2, Ver.zero, short1, [], []⟩) := by show _ = _; rw [HP3.out, (N2.nil).2 hz2]; rfl
        clear N2 hz2 HP3
        go_wp2
        refine bodyPost_ret (v := .tuple #[.agg #[.string (B d1), .string (B d2), .string (B Ver.zero), .string (B short1), .string (B []), .string (B [])], .bool true]) (by simp [results, Tryd.results15, go_sem]; try (first | rfl | exact ⟨rfl, rfl, rfl⟩)) rfl ⟨ParseS_some HP4.out, ?_⟩
        repeat (first | (with_reducible exact Gr.refl _) | (with_reducible exact Gr.of_drew ‹_›) | (with_reducible apply Gr.setCell) | (with_reducible apply Gr.alloc) | (with_reducible apply Gr.drewN) | (with_reducible apply Gr.drew) | (with_reducible exact Nat.le_refl _) | (show _ ≤ (_ : Nat); simp))
      have he2 : ((k2 : Int) == (s.size : Int)) = false := by rw [beq_eq_false_iff_ne]; omega
      have hlt2 : k2 < s.size := by omega
      obtain ⟨c2, hc2⟩ : ∃ c : UInt8, s[k2]'hlt2 = c := ⟨_, rfl⟩
      obtain ⟨hh2, ht2⟩ := N2.head hlt2
      rw [hc2] at hh2
      have H02 := Lib.hid hh2
      have HT2 := Lib.hid ht2
      clear N2 hh2 ht2 hz2
      by_cases hv2 : c2 = 46
      case neg =>
        have hb2 : ((c2.toNat : Int) != 46) = true := ne_nat' hv2
        have HP4 : Hid (Ver.parse s.data.toList = none) := by show _ = _; rw [HP3.out, after2_no H02.out hv2]
        clear hv2
        go_wp2
        refine bodyPost_ret (v := .tuple #[.agg #[.string (B []), .string (B []), .string (B []), .string (B []), .string (B []), .string (B [])], .bool false]) (by simp [results, Tryd.results15, go_sem]; try (first | rfl | exact ⟨rfl, rfl, rfl⟩)) rfl ⟨ParseS_none HP4.out, ?_⟩
        repeat (first | (with_reducible exact Gr.refl _) | (with_reducible exact Gr.of_drew ‹_›) | (with_reducible apply Gr.setCell) | (with_reducible apply Gr.alloc) | (with_reducible apply Gr.drewN) | (with_reducible apply Gr.drew) | (with_reducible exact Nat.le_refl _) | (show _ ≤ (_ : Nat); simp))
      have hb2 : ((c2.toNat : Int) != 46) = false := by rw [hv2]; rfl
      have HP4 : Hid (Ver.parse s.data.toList = (num (s.data.toList.drop (k2 + 1))).bind fun y => Ver.rest d1 d2 y.1 y.2) := by show _ = _; rw [HP3.out, after2_yes (by rw [H02.out, hv2]), HT2.out]
      clear hv2 H02 HP3 HT2
      go_wp2_with fail
      cases hn3 : num (s.data.toList.drop (k2 + 1)) with
      | none =>
        have HN3 := Lib.hid hn3
        have HP5 : Hid (Ver.parse s.data.toList = none) := by show _ = _; rw [HP4.out, hn3]; rfl
        clear hn3
        refine (number_no (a := k2 + 1) _ hs hlt2 HN3.out).mono ?_
        rintro e w' ⟨rfl, rfl⟩
        go_wp2
        refine bodyPost_ret (v := .tuple #[.agg #[.string (B []), .string (B []), .string (B []), .string (B []), .string (B []), .string (B [])], .bool false]) (by simp [results, Tryd.results15, go_sem]; try (first | rfl | exact ⟨rfl, rfl, rfl⟩)) rfl ⟨ParseS_none HP5.out, ?_⟩
        repeat (first | (with_reducible exact Gr.refl _) | (with_reducible exact Gr.of_drew ‹_›) | (with_reducible apply Gr.setCell) | (with_reducible apply Gr.alloc) | (with_reducible apply Gr.drewN) | (with_reducible apply Gr.drew) | (with_reducible exact Nat.le_refl _) | (show _ ≤ (_ : Nat); simp))
      | some x =>
        obtain ⟨d3, r3⟩ := x
        have N3 := NumAt.mk' hlt2 hn3
        obtain ⟨k3, hk3⟩ : ∃ k3, k2 + 1 + d3.length = k3 := ⟨_, rfl⟩
        rw [hk3] at N3
        have HN := Lib.hid hn3
        have HK3 := Lib.hid hk3.symm
        obtain ⟨s3, hs3⟩ : ∃ s3 : ByteArray, s3 = s.extract k3 s.size := ⟨_, rfl⟩
        have hr3 : r3 = s3.data.toList := by rw [hs3, Lib.extract_to_end, N3.rest]
        have HP5 : Hid (Ver.parse s.data.toList = Ver.rest d1 d2 d3 s3.data.toList) := by show _ = _; rw [HP4.out, hn3, ← hr3]; rfl
        have hl3 : s3.size ≤ 140737488351232 := by rw [Lib.size_eq, hs3, Lib.extract_to_end, List.length_drop, ← Lib.size_eq]; omega
        clear hn3 hk3 HP4 hr3
        refine (number_yes (a := k2 + 1) (k := k3) _ hs hlt2 HN.out HK3.out).mono ?_
        rintro e w' ⟨rfl, rfl⟩
        clear HN HK3
        have x3 := N3.cut
        have le3 := N3.le
        have ge3 := N3.ak
        replace hs3 := hs3.symm
        clear N3 h1 hb he1 hb1 he2 hb2 hc hc1 hc2
        by_cases hz3 : s3.size = 0
        case pos =>
          have h3s : s3.data.toList = [] := List.eq_nil_of_length_eq_zero (by rw [← Lib.size_eq]; exact hz3)
          have HP6 : Hid (Ver.parse s.data.toList = some ⟨d1, d2, d3, [], [], []⟩) := by show _ = _; rw [HP5.out, h3s, rest_plain (by simp)]; rfl
          have hz3' : ¬ (0 < s3.size) := by omega
          clear h3s HP5
          go_wp2
          refine bodyPost_ret (v := .tuple #[.agg #[.string (B d1), .string (B d2), .string (B d3), .string (B []), .string (B []), .string (B [])], .bool true]) (by simp [results, Tryd.results15, go_sem]; try (first | rfl | exact ⟨rfl, rfl, rfl⟩)) rfl ⟨ParseS_some HP6.out, ?_⟩
          repeat (first | (with_reducible exact Gr.refl _) | (with_reducible exact Gr.of_drew ‹_›) | (with_reducible apply Gr.setCell) | (with_reducible apply Gr.alloc) | (with_reducible apply Gr.drewN) | (with_reducible apply Gr.drew) | (with_reducible exact Nat.le_refl _) | (show _ ≤ (_ : Nat); simp))
        have hp3 : 0 < s3.size := by omega
        obtain ⟨c3, hc3⟩ : ∃ c : UInt8, s3[0]'hp3 = c := ⟨_, rfl⟩
        have H03 := Lib.hid (head_at (byte_at' s3 0 hp3 hc3))
        by_cases hv3 : c3 = 45
        case neg =>
          have hb3 : ((c3.toNat : Int) == 45) = false := ne_nat hv3
          have HP6 : Hid (Ver.parse s.data.toList = Ver.tail d1 d2 d3 [] s3.data.toList) := by show _ = _; rw [HP5.out, rest_plain (by rw [H03.out]; simpa using hv3)]
          clear hv3 HP5
          by_cases hpl : c3 = 43
          case neg =>
            have hbq : ((c3.toNat : Int) != 43) = true := ne_nat' hpl
            have HQ : Hid (Ver.parse s.data.toList = none) := by show _ = _; rw [HP6.out, tail_no (by intro e; have := H03.out; rw [e] at this; cases this) (by rw [H03.out]; simp [hpl])]
            clear hpl
            go_wp2
            refine bodyPost_ret (v := .tuple #[.agg #[.string (B []), .string (B []), .string (B []), .string (B []), .string (B []), .string (B [])], .bool false]) (by simp [results, Tryd.results15, go_sem]; try (first | rfl | exact ⟨rfl, rfl, rfl⟩)) rfl ⟨ParseS_none HQ.out, ?_⟩
            repeat (first | (with_reducible exact Gr.refl _) | (with_reducible exact Gr.of_drew ‹_›) | (with_reducible apply Gr.setCell) | (with_reducible apply Gr.alloc) | (with_reducible apply Gr.drewN) | (with_reducible apply Gr.drew) | (with_reducible exact Nat.le_refl _) | (show _ ≤ (_ : Nat); simp))
          have hbq : ((c3.toNat : Int) != 43) = false := by rw [hpl]; rfl
          have H43 : Hid (s3.data.toList.head? = some 43) := by show _ = _; rw [H03.out, hpl]
          clear hpl
          have hsx : (s3.extract 1 s3.size).size ≤ 140737488351232 := by rw [cut1_size]; omega
          cases hsr : series false s3.data.toList.tail with
          | false =>
            have HQ : Hid (Ver.parse s.data.toList = none) := by show _ = _; rw [HP6.out, tail_no (by intro e; have := H03.out; rw [e] at this; cases this) (by rw [hsr]; simp)]
            have HSR : Hid (series false (s3.extract 1 s3.size).data.toList = false) := by show _ = _; rw [cut1]; exact hsr
            clear hsr
            go_wp2_with fail
            refine (series_calls _ _ _ HSR.out _ hsx).mono ?_
            rintro e w' ⟨rfl, n5, rfl⟩
            go_wp2
            refine bodyPost_ret (v := .tuple #[.agg #[.string (B []), .string (B []), .string (B []), .string (B []), .string (B []), .string (B [])], .bool false]) (by simp [results, Tryd.results15, go_sem]; try (first | rfl | exact ⟨rfl, rfl, rfl⟩)) rfl ⟨ParseS_none HQ.out, ?_⟩
            repeat (first | (with_reducible exact Gr.refl _) | (with_reducible exact Gr.of_drew ‹_›) | (with_reducible apply Gr.setCell) | (with_reducible apply Gr.alloc) | (with_reducible apply Gr.drewN) | (with_reducible apply Gr.drew) | (with_reducible exact Nat.le_refl _) | (show _ ≤ (_ : Nat); simp))
          | true =>
            have HQ : Hid (Ver.parse s.data.toList = some ⟨d1, d2, d3, [], [], s3.data.toList⟩) := by show _ = _; rw [HP6.out, tail_yes H43.out hsr]
            have HSR : Hid (series false (s3.extract 1 s3.size).data.toList = true) := by show _ = _; rw [cut1]; exact hsr
            clear hsr
            go_wp2_with fail
            refine (series_calls _ _ _ HSR.out _ hsx).mono ?_
            rintro e w' ⟨rfl, n5, rfl⟩
            go_wp2
            refine bodyPost_ret (v := .tuple #[.agg #[.string (B d1), .string (B d2), .string (B d3), .string (B []), .string (B []), .string s3], .bool true]) (by simp [results, Tryd.results15, go_sem]; try (first | rfl | exact ⟨rfl, rfl, rfl⟩)) rfl ⟨by have := ParseS_some HQ.out; simp only [B_of] at this; exact this, ?_⟩
            repeat (first | (with_reducible exact Gr.refl _) | (with_reducible exact Gr.of_drew ‹_›) | (with_reducible apply Gr.setCell) | (with_reducible apply Gr.alloc) | (with_reducible apply Gr.drewN) | (with_reducible apply Gr.drew) | (with_reducible exact Nat.le_refl _) | (show _ ≤ (_ : Nat); simp))
        have hb3 : ((c3.toNat : Int) == 45) = true := by rw [hv3]; rfl
        have H45 : Hid (s3.data.toList.head? = some 45) := by show _ = _; rw [H03.out, hv3]
        obtain ⟨A, hA⟩ : ∃ A : ByteArray, s3.data.toList.tail.takeWhile (· != 43) = A.data.toList := ⟨B _, (B_data _).symm⟩
        obtain ⟨C, hC⟩ : ∃ C : ByteArray, (s3.data.toList.tail.dropWhile (· != 43)).tail = C.data.toList := ⟨B _, (B_data _).symm⟩
        obtain ⟨mm, hmm⟩ : ∃ m, (!(s3.data.toList.tail.dropWhile (· != 43)).isEmpty) = m := ⟨_, rfl⟩
        have hsx3 : (s3.extract 1 s3.size).size ≤ 140737488351232 := by rw [cut1_size]; omega
        have CC : ∀ w, Calls Tryd.prog 14 #[.string (s3.extract 1 s3.size), .int .u8 43] w fun e w' => e = .returned (.tuple #[.string A, .string C, .bool mm]) ∧ Drew w w' := fun w => Cut_tell (c := 43) w rfl hsx3 (by rw [cut1]; exact hA) (by rw [cut1]; exact hC) (by rw [cut1]; exact hmm)
        have DC := Lib.hid CC
        have hAs : 1 + A.size ≤ s3.size := by
          have := (List.takeWhile_sublist (· != 43) (l := s3.data.toList.tail)).length_le
          rw [hA, List.length_tail, ← Lib.size_eq, ← Lib.size_eq] at this; omega
        have HP6 : Hid (Ver.parse s.data.toList = if series true A.data.toList = true then Ver.tail d1 d2 d3 (45 :: A.data.toList) (s3.data.toList.drop (1 + A.size)) else none) := by
          show _ = _
          rw [HP5.out, rest_dash H45.out, hA]
          have : s3.data.toList.tail.dropWhile (· != 43) = s3.data.toList.drop (1 + A.size) := by
            have h1 := List.takeWhile_append_dropWhile (p := (· != 43)) (l := s3.data.toList.tail)
            rw [hA] at h1
            have h2 := congrArg (List.drop A.data.toList.length) h1
            rw [List.drop_left] at h2
            rw [h2, ← List.drop_drop, tail_drop, Lib.size_eq]
          rw [this]
        have hAs2 : A.size ≤ 140737488351232 := by omega
        clear hv3 HP5 H03 CC hA hC hmm
        go_wp2_with fail
        refine (DC.out _).mono ?_
        rintro e w' ⟨rfl, n4, rfl⟩
        clear DC
        cases hsr : series true A.data.toList with
        | false =>
          have HQ : Hid (Ver.parse s.data.toList = none) := by show _ = _; rw [HP6.out, hsr]; rfl
          have HSR := Lib.hid hsr
          clear hsr
          go_wp2_with fail
          refine (series_calls _ _ _ HSR.out _ hAs2).mono ?_
          rintro e w' ⟨rfl, n5, rfl⟩
          go_wp2
          refine bodyPost_ret (v := .tuple #[.agg #[.string (B []), .string (B []), .string (B []), .string (B []), .string (B []), .string (B [])], .bool false]) (by simp [results, Tryd.results15, go_sem]; try (first | rfl | exact ⟨rfl, rfl, rfl⟩)) rfl ⟨ParseS_none HQ.out, ?_⟩
          repeat (first | (with_reducible exact Gr.refl _) | (with_reducible exact Gr.of_drew ‹_›) | (with_reducible apply Gr.setCell) | (with_reducible apply Gr.alloc) | (with_reducible apply Gr.drewN) | (with_reducible apply Gr.drew) | (with_reducible exact Nat.le_refl _) | (show _ ≤ (_ : Nat); simp))
        | true =>
          have HSR := Lib.hid hsr
          obtain ⟨s4, hs4⟩ : ∃ s4 : ByteArray, s3.extract (1 + A.size) s3.size = s4 := ⟨_, rfl⟩
          have HP7 : Hid (Ver.parse s.data.toList = Ver.tail d1 d2 d3 (45 :: A.data.toList) s4.data.toList) := by show _ = _; rw [HP6.out, hsr, if_pos rfl, ← hs4, Lib.extract_to_end]
          have hl4 : s4.size ≤ 140737488351232 := by rw [← hs4, Lib.size_eq, Lib.extract_to_end, List.length_drop, ← Lib.size_eq]; omega
          have hpre : (⟨#[45]⟩ : ByteArray) ++ A = B (45 :: A.data.toList) := by
            have := B_append [45] A.data.toList
            rw [B_of] at this; exact this
          have hpz : ((⟨#[45]⟩ : ByteArray) ++ A).size = A.size + 1 := by rw [hpre, B_size, Lib.size_eq]; rfl
          clear hsr HP6 H45 hc3
          go_wp2_with fail
          refine (series_calls _ _ _ HSR.out _ hAs2).mono ?_
          rintro e w' ⟨rfl, n5, rfl⟩
          by_cases hz4 : s4.size = 0
          case pos =>
            have h4s : s4.data.toList = [] := List.eq_nil_of_length_eq_zero (by rw [← Lib.size_eq]; exact hz4)
            have HQ : Hid (Ver.parse s.data.toList = some ⟨d1, d2, d3, [], 45 :: A.data.toList, []⟩) := by show _ = _; rw [HP7.out, h4s]; rfl
            have hz4' : ¬ (0 < s4.size) := by omega
            clear h4s HP7
            go_wp2
            refine bodyPost_ret (v := .tuple #[.agg #[.string (B d1), .string (B d2), .string (B d3), .string (B []), .string (B (45 :: A.data.toList)), .string (B [])], .bool true]) (by simp [results, Tryd.results15, go_sem]; try (first | rfl | exact ⟨rfl, rfl, rfl⟩)) rfl ⟨ParseS_some HQ.out, ?_⟩
            repeat (first | (with_reducible exact Gr.refl _) | (with_reducible exact Gr.of_drew ‹_›) | (with_reducible apply Gr.setCell) | (with_reducible apply Gr.alloc) | (with_reducible apply Gr.drewN) | (with_reducible apply Gr.drew) | (with_reducible exact Nat.le_refl _) | (show _ ≤ (_ : Nat); simp))
          have hp4 : 0 < s4.size := by omega
          obtain ⟨c4, hc4⟩ : ∃ c : UInt8, s4[0]'hp4 = c := ⟨_, rfl⟩
          have H04 := Lib.hid (head_at (byte_at' s4 0 hp4 hc4))
          by_cases hpl : c4 = 43
          case neg =>
            have hbq : ((c4.toNat : Int) != 43) = true := ne_nat' hpl
            have HQ : Hid (Ver.parse s.data.toList = none) := by show _ = _; rw [HP7.out, tail_no (by intro e; have := H04.out; rw [e] at this; cases this) (by rw [H04.out]; simp [hpl])]
            clear hpl
            go_wp2
            refine bodyPost_ret (v := .tuple #[.agg #[.string (B []), .string (B []), .string (B []), .string (B []), .string (B []), .string (B [])], .bool false]) (by simp [results, Tryd.results15, go_sem]; try (first | rfl | exact ⟨rfl, rfl, rfl⟩)) rfl ⟨ParseS_none HQ.out, ?_⟩
            repeat (first | (with_reducible exact Gr.refl _) | (with_reducible exact Gr.of_drew ‹_›) | (with_reducible apply Gr.setCell) | (with_reducible apply Gr.alloc) | (with_reducible apply Gr.drewN) | (with_reducible apply Gr.drew) | (with_reducible exact Nat.le_refl _) | (show _ ≤ (_ : Nat); simp))
          have hbq : ((c4.toNat : Int) != 43) = false := by rw [hpl]; rfl
          have H43 : Hid (s4.data.toList.head? = some 43) := by show _ = _; rw [H04.out, hpl]
          clear hpl
          have hsx : (s4.extract 1 s4.size).size ≤ 140737488351232 := by rw [cut1_size]; omega
          cases hsr : series false s4.data.toList.tail with
          | false =>
            have HQ : Hid (Ver.parse s.data.toList = none) := by show _ = _; rw [HP7.out, tail_no (by intro e; have := H04.out; rw [e] at this; cases this) (by rw [hsr]; simp)]
            have HSR : Hid (series false (s4.extract 1 s4.size).data.toList = false) := by show _ = _; rw [cut1]; exact hsr
            clear hsr
            go_wp2_with fail
            refine (series_calls _ _ _ HSR.out _ hsx).mono ?_
            rintro e w' ⟨rfl, n5, rfl⟩
            go_wp2
            refine bodyPost_ret (v := .tuple #[.agg #[.string (B []), .string (B []), .string (B []), .string (B []), .string (B []), .string (B [])], .bool false]) (by simp [results, Tryd.results15, go_sem]; try (first | rfl | exact ⟨rfl, rfl, rfl⟩)) rfl ⟨ParseS_none HQ.out, ?_⟩
            repeat (first | (with_reducible exact Gr.refl _) | (with_reducible exact Gr.of_drew ‹_›) | (with_reducible apply Gr.setCell) | (with_reducible apply Gr.alloc) | (with_reducible apply Gr.drewN) | (with_reducible apply Gr.drew) | (with_reducible exact Nat.le_refl _) | (show _ ≤ (_ : Nat); simp))
          | true =>
            have HQ : Hid (Ver.parse s.data.toList = some ⟨d1, d2, d3, [], 45 :: A.data.toList, s4.data.toList⟩) := by show _ = _; rw [HP7.out, tail_yes H43.out hsr]
            have HSR : Hid (series false (s4.extract 1 s4.size).data.toList = true) := by show _ = _; rw [cut1]; exact hsr
            clear hsr
            go_wp2_with fail
            refine (series_calls _ _ _ HSR.out _ hsx).mono ?_
            rintro e w' ⟨rfl, n5, rfl⟩
            go_wp2
            refine bodyPost_ret (v := .tuple #[.agg #[.string (B d1), .string (B d2), .string (B d3), .string (B []), .string (B (45 :: A.data.toList)), .string s4], .bool true]) (by simp [results, Tryd.results15, go_sem]; try (first | rfl | exact ⟨rfl, rfl, rfl⟩)) rfl ⟨by have := ParseS_some HQ.out; simp only [B_of] at this; exact this, ?_⟩
            repeat (first | (with_reducible exact Gr.refl _) | (with_reducible exact Gr.of_drew ‹_›) | (with_reducible apply Gr.setCell) | (with_reducible apply Gr.alloc) | (with_reducible apply Gr.drewN) | (with_reducible apply Gr.drew) | (with_reducible exact Nat.le_refl _) | (show _ ≤ (_ : Nat); simp))
#print axioms Parse_calls
end Go.Proofs.YtppnjkfeefmohaaDoor
