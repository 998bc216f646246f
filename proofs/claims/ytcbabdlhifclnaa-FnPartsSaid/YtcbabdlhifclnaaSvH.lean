/- The walk of package semver's MajorMinor. -/
import Derived.Test.YtcbabdlhifclnaaSvG
import Derived.IntWalk
namespace Go.Proofs.Ytcbabdlhifclnaa
open Go.RowKit Str Ver
set_option linter.unusedVariables false

set_option maxHeartbeats 4000000 in
theorem MajorMinor_calls (s : ByteArray) (w : World) (hs : s.size ≤ 140737488351232) :
    Calls Try.prog 19 #[.string s] w fun e w' => e = .returned (.string ((Ver.parse s.data.toList).elim (B []) fun v => B (118 :: v.major ++ 46 :: v.minor))) ∧ Gr w w' := by
  cases hp : Ver.parse s.data.toList with
  | none =>
    have HP := Lib.hid hp
    clear hp
    go_enter Try.func19, Try.ntmps19
    go_wp2_with fail
    refine (parse_bad _ hs HP.out).mono ?_
    rintro e w1 ⟨a, b, c, d, f, g, rfl, hg⟩
    go_wp2
    go_ret
    exact ⟨rfl, hg.alloc _⟩
  | some v =>
    have HP := Lib.hid hp
    obtain ⟨m, hm⟩ : ∃ m, (B v.major).size = m := ⟨_, rfl⟩
    have hm' : m = v.major.length := by rw [← hm, B_size]
    obtain ⟨n, hn⟩ : ∃ n, (B v.minor).size = n := ⟨_, rfl⟩
    have hn' : n = v.minor.length := by rw [← hn, B_size]
    have shapes : (s.data.toList = 118 :: v.major ∧ v.minor = Ver.zero) ∨ (∃ r, s.data.toList = (118 :: v.major ++ 46 :: v.minor) ++ r) := by
      rcases parse_shape hp with h | h | h
      · exact .inl ⟨h.2.1, h.2.2.1⟩
      · exact .inr ⟨[], by rw [h.2.1]; simp⟩
      · exact .inr ⟨46 :: v.patch ++ v.pre ++ v.build, by rw [h.2.1]; simp⟩
    clear hp
    rcases shapes with ⟨h1, h2⟩ | ⟨r, h1⟩
    · have hl := congrArg List.length h1
      rw [← Lib.size_eq, List.length_cons, ← hm'] at hl
      have hn1 : n = 1 := by rw [hn', h2]; rfl
      subst hn1
      have hgt : ¬ (1 + (m : Int) + 1 + 1 ≤ (s.size : Int)) := by omega
      have hd : decide (1 + (m : Int) + 1 + 1 ≤ (s.size : Int)) = false := decide_eq_false hgt
      have hle : 1 + m ≤ s.size := by omega
      have HV : Hid (((s.extract 0 (1 + m)) ++ (⟨#[46]⟩ : ByteArray)) ++ B v.minor = B (118 :: v.major ++ 46 :: v.minor)) := by
        show _ = _
        have e1 : s.extract 0 (1 + m) = B (118 :: v.major) := by
          have := cut_at (s := s) (a := 118 :: v.major) (r := []) (by rw [h1]; simp)
          rw [List.length_cons, ← hm'] at this
          rw [Nat.add_comm]; exact this
        rw [e1]
        have e2 : (⟨#[46]⟩ : ByteArray) = B [46] := rfl
        rw [e2, B_append, B_append]; simp
      clear h1 h2 hl hm' hn'
      go_enter Try.func19, Try.ntmps19
      go_wp2_with fail
      refine (parse_good _ hs HP.out).mono ?_
      rintro e w1 ⟨rfl, hg⟩
      go_wp2
      go_quiet (fail)
      go_wp2
      go_quiet (fail)
      go_wp2
      go_ret
      exact ⟨ret_str HV.out, by repeat (first | exact hg | (with_reducible apply Gr.drewN) | (with_reducible apply Gr.drew) | (with_reducible apply Gr.alloc))⟩
    · have hl := congrArg List.length h1
      rw [← Lib.size_eq] at hl
      simp only [List.length_append, List.length_cons, ← hm', ← hn'] at hl
      have hle : 1 + m + 1 + n ≤ s.size := by omega
      have hle' : 1 + (m : Int) + 1 + (n : Int) ≤ (s.size : Int) := by omega
      have hd : decide (1 + (m : Int) + 1 + (n : Int) ≤ (s.size : Int)) = true := decide_eq_true hle'
      have hlt : 1 + m < s.size := by omega
      have hc : s[1 + m]'hlt = (46 : UInt8) := by
        have h2 := byte_at s (1 + m) hlt
        rw [h1, List.append_assoc, List.getElem?_append_right (by simp; omega)] at h2
        simp only [List.length_cons, ← hm'] at h2
        rw [show 1 + m - (m + 1) = 0 from by omega] at h2
        simp at h2
        exact h2.symm
      have hb : (((46 : UInt8).toNat : Nat) : Int) == 46 := rfl
      have HX : s.extract (1 + m + 1) (1 + m + 1 + n) = B v.minor := by
        refine Str.of_data ?_
        rw [Lib.extract_data, B_data, h1, Nat.add_sub_cancel_left, List.append_assoc, show 1 + m + 1 = (118 :: v.major).length + 1 from by simp; omega, ← List.drop_drop, List.drop_left]
        simp only [List.cons_append, List.drop_succ_cons, List.drop_zero]
        rw [hn', List.take_left]
      have he : ((B v.minor).toList == (B v.minor).toList) = true := beq_self_eq_true _
      have HV : Hid (s.extract 0 (1 + m + 1 + n) = B (118 :: v.major ++ 46 :: v.minor)) := by
        show _ = _
        have := cut_at h1
        rw [← this]; congr 1; simp; omega
      have i0 : (0 : Int) ≤ 1 + (m : Int) := by omega
      have i1 : 1 + (m : Int) < (s.size : Int) := by omega
      have i2 : (0 : Int) ≤ 1 + (m : Int) + 1 := by omega
      have i3 : 1 + (m : Int) + 1 ≤ 1 + (m : Int) + 1 + (n : Int) := by omega
      have i4 : (0 : Int) ≤ 1 + (m : Int) + 1 + (n : Int) := by omega
      have w1 : IntKind.i64.wrap (1 + (m : Int) + 1) = 1 + (m : Int) + 1 := IntWalk.i64_in _ (by omega)
      have t1 : (1 + (m : Int)).toNat = 1 + m := by omega
      have t2 : (1 + (m : Int) + 1).toNat = 1 + m + 1 := by omega
      have t3 : (1 + (m : Int) + 1 + (n : Int)).toNat = 1 + m + 1 + n := by omega
      clear h1 hl hm' hn'
      go_enter Try.func19, Try.ntmps19
      go_wp2_with fail
      refine (parse_good _ hs HP.out).mono ?_
      rintro e w1 ⟨rfl, hg⟩
      go_wp2
      go_quiet (fail)
      go_wp2
      go_ret
      exact ⟨ret_str HV.out, by repeat (first | exact hg | (with_reducible apply Gr.drewN) | (with_reducible apply Gr.drew) | (with_reducible apply Gr.alloc))⟩

#print axioms MajorMinor_calls
end Go.Proofs.Ytcbabdlhifclnaa
