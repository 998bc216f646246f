/- Walks of package semver: Compare, Major, MajorMinor, Prerelease, Build, IsValid; and of the thin package's calls of them. -/
import Derived.Test.YtppnjkfeefmohaaDoorSvF
namespace Go.Proofs.YtppnjkfeefmohaaDoor
open Go.RowKit Str Ver
set_option linter.unusedVariables false

theorem parse_bad {s : ByteArray} (w : World) (hs : s.size ≤ 140737488351232) (h : Ver.parse s.data.toList = none) :
    Calls Tryd.prog 38 #[.string s] w fun e w' => ∃ a b c d f g : ByteArray, e = .returned (.tuple #[.agg #[.string a, .string b, .string c, .string d, .string f, .string g], .bool false]) ∧ Gr w w' :=
  (parse_calls s w hs).mono fun e w' ⟨h1, h2⟩ => by
    unfold ParseR at h1; rw [h] at h1
    obtain ⟨a, b, c, d, f, g, h1⟩ := h1
    exact ⟨a, b, c, d, f, g, h1, h2⟩
theorem parse_good {s : ByteArray} {v : V} (w : World) (hs : s.size ≤ 140737488351232) (h : Ver.parse s.data.toList = some v) :
    Calls Tryd.prog 38 #[.string s] w fun e w' => e = .returned (.tuple #[.agg #[.string (B v.major), .string (B v.minor), .string (B v.patch), .string (B v.short), .string (B v.pre), .string (B v.build)], .bool true]) ∧ Gr w w' :=
  (parse_calls s w hs).mono fun e w' ⟨h1, h2⟩ => by
    unfold ParseR at h1; rw [h] at h1; exact ⟨h1, h2⟩

/-- blocks that were there hold what they held -/
theorem Gr.cells {w w' : World} (h : Gr w w') : (∀ b o, b < w.heap.size → w'.cell? ⟨b, o, none⟩ = w.cell? ⟨b, o, none⟩) ∧ (∀ b o, b < w.heap.size → w'.frozen? ⟨b, o, none⟩ = w.frozen? ⟨b, o, none⟩) ∧ w.heap.size ≤ w'.heap.size :=
  ⟨fun b o hb => h.below.cell (p := ⟨b, o, none⟩) hb, fun b o hb => h.below.frozen (p := ⟨b, o, none⟩) hb, h.below.size⟩

theorem num_split {l d r : List UInt8} (h : num l = some (d, r)) : l = d ++ r := by
  unfold num at h
  simp only at h
  split at h
  · cases h
  · split at h
    · cases h
    · simp only [Option.some.injEq, Prod.mk.injEq] at h
      rw [← h.1, ← h.2, List.takeWhile_append_dropWhile]

theorem head_cons {l : List UInt8} {c : UInt8} (h : l.head? = some c) : l = c :: l.tail := by
  cases l with
  | nil => cases h
  | cons d m => simp at h; simp [h]

theorem tail_shape {ma mi pa pre l : List UInt8} {v : V} (h : Ver.tail ma mi pa pre l = some v) :
    v.major = ma ∧ v.minor = mi ∧ v.patch = pa ∧ v.short = [] ∧ v.pre = pre ∧ v.build = l ∧ (l = [] ∨ l.head? = some 43 ∧ series false l.tail = true) := by
  unfold Ver.tail at h
  by_cases hl : l = []
  · rw [if_pos hl] at h; cases h; exact ⟨rfl, rfl, rfl, rfl, rfl, hl.symm, .inl hl⟩
  · rw [if_neg hl] at h
    split at h
    · cases h; exact ⟨rfl, rfl, rfl, rfl, rfl, rfl, .inr (by assumption)⟩
    · cases h

/-- what a version's text is made of -/
theorem parse_shape {l : List UInt8} {v : V} (h : Ver.parse l = some v) :
    (v.short = short2 ∧ l = 118 :: v.major ∧ v.minor = Ver.zero ∧ v.patch = Ver.zero ∧ v.pre = [] ∧ v.build = []) ∨
    (v.short = short1 ∧ l = 118 :: v.major ++ 46 :: v.minor ∧ v.patch = Ver.zero ∧ v.pre = [] ∧ v.build = []) ∨
    (v.short = [] ∧ l = 118 :: v.major ++ 46 :: v.minor ++ 46 :: v.patch ++ v.pre ++ v.build ∧ (v.pre = [] ∨ ∃ a, v.pre = 45 :: a ∧ series true a = true) ∧ (v.build = [] ∨ v.build.head? = some 43 ∧ series false v.build.tail = true)) := by
  unfold Ver.parse at h
  split at h
  case isFalse => cases h
  case isTrue h0 =>
    have e0 := head_cons h0
    cases h1 : num l.tail with
    | none => rw [h1] at h; cases h
    | some x =>
      obtain ⟨d1, r1⟩ := x
      rw [h1] at h
      have s1 := num_split h1
      simp only [Option.bind_some] at h
      unfold after1 at h
      by_cases hr : r1 = []
      · rw [if_pos hr] at h; cases h
        exact .inl ⟨rfl, by rw [e0, s1, hr]; simp, rfl, rfl, rfl, rfl⟩
      rw [if_neg hr] at h
      split at h
      case isFalse => cases h
      case isTrue h2 =>
        have e1 := head_cons h2
        cases h3 : num r1.tail with
        | none => rw [h3] at h; cases h
        | some y =>
          obtain ⟨d2, r2⟩ := y
          rw [h3] at h
          have s2 := num_split h3
          simp only [Option.bind_some] at h
          unfold after2 at h
          by_cases hr2 : r2 = []
          · rw [if_pos hr2] at h; cases h
            exact .inr (.inl ⟨rfl, by rw [e0, s1, e1, s2, hr2]; simp, rfl, rfl, rfl⟩)
          rw [if_neg hr2] at h
          split at h
          case isFalse => cases h
          case isTrue h4 =>
            have e2 := head_cons h4
            cases h5 : num r2.tail with
            | none => rw [h5] at h; cases h
            | some z =>
              obtain ⟨d3, r3⟩ := z
              rw [h5] at h
              have s3 := num_split h5
              simp only [Option.bind_some] at h
              refine .inr (.inr ?_)
              by_cases h6 : r3.head? = some 45
              · have e3 := head_cons h6
                rw [rest_dash h6] at h
                split at h
                case isFalse => cases h
                case isTrue h7 =>
                  obtain ⟨q1, q2, q3, q4, q5, q6, q7⟩ := tail_shape h
                  refine ⟨q4, ?_, .inr ⟨_, q5, h7⟩, by rw [q6]; exact q7⟩
                  rw [q1, q2, q3, q5, q6, e0, s1, e1, s2, e2, s3]
                  conv => lhs; rw [e3]
                  have := List.takeWhile_append_dropWhile (p := (· != 43)) (l := r3.tail)
                  simp only [List.cons_append, List.append_assoc]
                  rw [this]
              · rw [rest_plain h6] at h
                obtain ⟨q1, q2, q3, q4, q5, q6, q7⟩ := tail_shape h
                refine ⟨q4, ?_, .inl q5, by rw [q6]; exact q7⟩
                rw [q1, q2, q3, q5, q6, e0, s1, e1, s2, e2, s3]
                simp

theorem parse_front {l : List UInt8} {v : V} (h : Ver.parse l = some v) : ∃ r, l = (118 :: v.major) ++ r := by
  rcases parse_shape h with h | h | h
  · exact ⟨[], by simp [h.2.1]⟩
  · exact ⟨46 :: v.minor, h.2.1⟩
  · exact ⟨46 :: v.minor ++ 46 :: v.patch ++ v.pre ++ v.build, by rw [h.2.1]; simp⟩

/-- no part is longer than the text, or it is a nought -/
theorem parse_lens {l : List UInt8} {v : V} (h : Ver.parse l = some v) (hl : l.length ≤ 140737488351232) :
    v.major.length ≤ 140737488351232 ∧ v.minor.length ≤ 140737488351232 ∧ v.patch.length ≤ 140737488351232 ∧ v.pre.length ≤ 140737488351232 ∧ v.build.length ≤ 140737488351232 := by
  rcases parse_shape h with ⟨_, h1, h2, h3, h4, h5⟩ | ⟨_, h1, h3, h4, h5⟩ | ⟨_, h1, _⟩ <;> (have h6 := congrArg List.length h1; simp at h6) <;> simp_all [Ver.zero] <;> omega

theorem cut_at {s : ByteArray} {a r : List UInt8} (h : s.data.toList = a ++ r) : s.extract 0 a.length = B a := by
  rw [cut_take, h, List.take_left]

theorem compareInt_B (l m : List UInt8) (w : World) (hl : l.length ≤ 140737488351232) (hm : m.length ≤ 140737488351232) :
    Calls Tryd.prog 39 #[.string (B l), .string (B m)] w fun e w' => e = .returned (.int .i64 (Ver.figures l m)) ∧ w = w' :=
  (compareInt_calls (B l) (B m) w (by rw [B_size]; exact hl) (by rw [B_size]; exact hm)).mono fun e w' ⟨h1, h2⟩ => ⟨by rw [h1, B_data, B_data], h2⟩

theorem pre_ok {l : List UInt8} {v : V} (h : Ver.parse l = some v) : PreOk v.pre := by
  rcases parse_shape h with ⟨_, _, _, _, h, _⟩ | ⟨_, _, _, h, _⟩ | ⟨_, _, h, _⟩
  · exact .inl h
  · exact .inl h
  · rcases h with h | ⟨a, h1, h2⟩
    · exact .inl h
    · refine .inr ⟨by rw [h1]; rfl, fun x hx => ?_⟩
      rw [h1] at hx
      unfold ids at hx
      rw [if_neg (by simp), List.tail_cons] at hx
      unfold series at h2
      have := List.all_eq_true.1 h2 x hx
      intro e
      rw [e] at this
      simp [okId] at this

theorem comparePrerelease_B (l m : List UInt8) (w : World) (hl : l.length ≤ 140737488351232) (hm : m.length ≤ 140737488351232) (h1 : PreOk l) (h2 : PreOk m) :
    Calls Tryd.prog 40 #[.string (B l), .string (B m)] w fun e w' => e = .returned (.int .i64 (Ver.pre l m)) ∧ Drew w w' :=
  (comparePrerelease_calls (B l) (B m) w (by rw [B_size]; exact hl) (by rw [B_size]; exact hm) (by rw [B_data]; exact h1) (by rw [B_data]; exact h2)).mono fun e w' ⟨h1, h2⟩ => ⟨by rw [h1, B_data, B_data], h2⟩

theorem cmpV_tell (a b : V) : cmpV a b = if Ver.figures a.major b.major = 0 then (if Ver.figures a.minor b.minor = 0 then (if Ver.figures a.patch b.patch = 0 then Ver.pre a.pre b.pre else Ver.figures a.patch b.patch) else Ver.figures a.minor b.minor) else Ver.figures a.major b.major := rfl

set_option maxHeartbeats 4000000 in
theorem Compare_calls (s t : ByteArray) (w : World) (hs : s.size ≤ 140737488351232) (ht : t.size ≤ 140737488351232) :
    Calls Tryd.prog 26 #[.string s, .string t] w fun e w' => e = .returned (.int .i64 (Ver.cmp s.data.toList t.data.toList)) ∧ Gr w w' := by
  unfold Ver.cmp
  cases hp : Ver.parse s.data.toList with
  | none =>
    have HP := Lib.hid hp
    clear hp
    cases hq : Ver.parse t.data.toList with
    | none =>
      have HQ := Lib.hid hq
      clear hq
      go_enter Tryd.func26, Tryd.ntmps26
      go_wp2_with fail
      refine (parse_bad _ hs HP.out).mono ?_
      rintro e w1 ⟨a, b, c, d, f, g, rfl, hg⟩
      go_wp2_with fail
      refine (parse_bad _ ht HQ.out).mono ?_
      rintro e w2 ⟨a2, b2, c2, d2, f2, g2, rfl, hg2⟩
      go_wp2
      go_ret
      exact ⟨rfl, ((hg.alloc _).trans hg2).alloc _⟩
    | some u =>
      have HQ := Lib.hid hq
      clear hq
      go_enter Tryd.func26, Tryd.ntmps26
      go_wp2_with fail
      refine (parse_bad _ hs HP.out).mono ?_
      rintro e w1 ⟨a, b, c, d, f, g, rfl, hg⟩
      go_wp2_with fail
      refine (parse_good _ ht HQ.out).mono ?_
      rintro e w2 ⟨rfl, hg2⟩
      go_wp2
      go_ret
      exact ⟨rfl, ((hg.alloc _).trans hg2).alloc _⟩
  | some v =>
    have HP := Lib.hid hp
    cases hq : Ver.parse t.data.toList with
    | none =>
      have HQ := Lib.hid hq
      clear hq hp
      go_enter Tryd.func26, Tryd.ntmps26
      go_wp2_with fail
      refine (parse_good _ hs HP.out).mono ?_
      rintro e w1 ⟨rfl, hg⟩
      go_wp2_with fail
      refine (parse_bad _ ht HQ.out).mono ?_
      rintro e w2 ⟨a2, b2, c2, d2, f2, g2, rfl, hg2⟩
      go_wp2
      go_ret
      exact ⟨rfl, ((hg.alloc _).trans hg2).alloc _⟩
    | some u =>
      have HQ := Lib.hid hq
      have o1 := pre_ok hp
      have o2 := pre_ok hq
      obtain ⟨l1, l2, l3, l4, _⟩ := parse_lens hp (by rw [← Lib.size_eq]; exact hs)
      obtain ⟨m1, m2, m3, m4, _⟩ := parse_lens hq (by rw [← Lib.size_eq]; exact ht)
      have C1 : ∀ w, Calls Tryd.prog 39 #[.string (B v.major), .string (B u.major)] w fun e w' => e = .returned (.int .i64 (Ver.figures v.major u.major)) ∧ w = w' := fun w => compareInt_B _ _ w l1 m1
      have C2 : ∀ w, Calls Tryd.prog 39 #[.string (B v.minor), .string (B u.minor)] w fun e w' => e = .returned (.int .i64 (Ver.figures v.minor u.minor)) ∧ w = w' := fun w => compareInt_B _ _ w l2 m2
      have C3 : ∀ w, Calls Tryd.prog 39 #[.string (B v.patch), .string (B u.patch)] w fun e w' => e = .returned (.int .i64 (Ver.figures v.patch u.patch)) ∧ w = w' := fun w => compareInt_B _ _ w l3 m3
      have C4 : ∀ w, Calls Tryd.prog 40 #[.string (B v.pre), .string (B u.pre)] w fun e w' => e = .returned (.int .i64 (Ver.pre v.pre u.pre)) ∧ Drew w w' := fun w => comparePrerelease_B _ _ w l4 m4 o1 o2
      obtain ⟨R, hR⟩ : ∃ R, cmpV v u = R := ⟨_, rfl⟩
      have HR : Hid (R = if Ver.figures v.major u.major = 0 then (if Ver.figures v.minor u.minor = 0 then (if Ver.figures v.patch u.patch = 0 then Ver.pre v.pre u.pre else Ver.figures v.patch u.patch) else Ver.figures v.minor u.minor) else Ver.figures v.major u.major) := hR.symm.trans (cmpV_tell v u)
      have hfin : Cmp.opt cmpV (some v) (some u) = R := hR
      rw [hfin]
      clear hfin hR hp hq l1 l2 l3 l4 m1 m2 m3 m4 o1 o2
      generalize Ver.figures v.major u.major = f1 at *
      generalize Ver.figures v.minor u.minor = f2 at *
      generalize Ver.figures v.patch u.patch = f3 at *
      generalize Ver.pre v.pre u.pre = f4 at *
      have D1 := Lib.hid C1
      have D2 := Lib.hid C2
      have D3 := Lib.hid C3
      have D4 := Lib.hid C4
      clear C1 C2 C3 C4
      go_enter Tryd.func26, Tryd.ntmps26
      go_wp2_with fail
      refine (parse_good _ hs HP.out).mono ?_
      rintro e w1 ⟨rfl, hg⟩
      go_wp2_with fail
      refine (parse_good _ ht HQ.out).mono ?_
      rintro e w2 ⟨rfl, hg2⟩
      have hz : w1.heap.size < w2.heap.size := by have := hg2.below.size; simp at this; omega
      have cc : ∀ j : Nat, w2.cell? ⟨w1.heap.size, j, none⟩ = _ := fun j => hg2.cells.1 w1.heap.size j (by simp)
      have c0 := cc 0
      have c1 := cc 1
      have c2 := cc 2
      have c4 := cc 4
      have HG := Lib.hid hg
      have HG2 := Lib.hid hg2
      clear cc hg hg2
      simp at c0 c1 c2 c4
      go_wp2_with fail
      refine (D1.out _).mono ?_
      rintro e w' ⟨rfl, rfl⟩
      by_cases e1 : f1 = 0
      case neg =>
        have b1 : (f1 != 0) = true := bne_iff_ne.2 e1
        have HF : Hid (R = f1) := by show _ = _; rw [HR.out, if_neg e1]
        clear e1 HR
        go_wp2
        go_ret
        exact ⟨ret_int HF.out.symm, ((HG.out.alloc _).trans HG2.out).alloc _⟩
      have b1 : (f1 != 0) = false := bne_eq_false_iff_eq.2 e1
      go_wp2_with fail
      refine (D2.out _).mono ?_
      rintro e w' ⟨rfl, rfl⟩
      by_cases e2 : f2 = 0
      case neg =>
        have b2 : (f2 != 0) = true := bne_iff_ne.2 e2
        have HF : Hid (R = f2) := by show _ = _; rw [HR.out, if_pos e1, if_neg e2]
        clear e1 e2 HR
        go_wp2
        go_ret
        exact ⟨ret_int HF.out.symm, ((HG.out.alloc _).trans HG2.out).alloc _⟩
      have b2 : (f2 != 0) = false := bne_eq_false_iff_eq.2 e2
      go_wp2_with fail
      refine (D3.out _).mono ?_
      rintro e w' ⟨rfl, rfl⟩
      by_cases e3 : f3 = 0
      case neg =>
        have b3 : (f3 != 0) = true := bne_iff_ne.2 e3
        have HF : Hid (R = f3) := by show _ = _; rw [HR.out, if_pos e1, if_pos e2, if_neg e3]
        clear e1 e2 e3 HR
        go_wp2
        go_ret
        exact ⟨ret_int HF.out.symm, ((HG.out.alloc _).trans HG2.out).alloc _⟩
      have b3 : (f3 != 0) = false := bne_eq_false_iff_eq.2 e3
      have HF : Hid (R = f4) := by show _ = _; rw [HR.out, if_pos e1, if_pos e2, if_pos e3]
      clear e1 e2 e3 HR
      go_wp2_with fail
      refine (D4.out _).mono ?_
      rintro e w' ⟨rfl, n4, rfl⟩
      go_wp2
      go_ret
      exact ⟨ret_int HF.out.symm, (((HG.out.alloc _).trans HG2.out).alloc _).drewN _⟩

end Go.Proofs.YtppnjkfeefmohaaDoor
