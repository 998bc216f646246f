/- Walks of package semver: IsValid, Canonical, Max; a version's canonical form in plain words. -/
import Derived.Test.YtfpboapgfbehlaaDoorSvG
namespace Go.Proofs.YtfpboapgfbehlaaDoor
open Go.RowKit Str Ver
set_option linter.unusedVariables false

theorem str_add {a b c : ByteArray} (h : a ++ b = c) (hs : a.size + b.size ≤ 9223372036854775807) : Op.stringOp .add a b = pure (.string c) := by
  simp only [Op.stringOp]
  rw [if_neg (by rw [IntKind.max_i64]; omega), h]

namespace Ver
/-- a version with all three numbers, without what stands behind a plus -/
def canon (v : V) : List UInt8 := 118 :: v.major ++ 46 :: v.minor ++ 46 :: v.patch ++ v.pre
/-- of a text -/
def canonT (l : List UInt8) : List UInt8 := (parse l).elim [] canon

theorem canon_build {l : List UInt8} {v : V} (h : Ver.parse l = some v) (hb : v.build ≠ []) : l = canon v ++ v.build := by
  rcases parse_shape h with ⟨_, _, _, _, _, h5⟩ | ⟨_, _, _, _, h5⟩ | ⟨_, h1, _⟩
  · exact absurd h5 hb
  · exact absurd h5 hb
  · rw [h1]; rfl
theorem canon_short {l : List UInt8} {v : V} (h : Ver.parse l = some v) (hb : v.build = []) : l ++ v.short = canon v := by
  rcases parse_shape h with ⟨h0, h1, h2, h3, h4, h5⟩ | ⟨h0, h1, h3, h4, h5⟩ | ⟨h0, h1, _⟩
  · rw [h0, h1, canon, h2, h3, h4]; simp [short2, Ver.zero]
  · rw [h0, h1, canon, h3, h4]; simp [short1, Ver.zero]
  · rw [h0, h1, hb, canon]; simp
end Ver

theorem IsValid_calls (s : ByteArray) (w : World) (hs : s.size ≤ 140737488351232) :
    Calls Tryd.prog 30 #[.string s] w fun e w' => e = .returned (.bool (Ver.parse s.data.toList).isSome) ∧ Gr w w' := by
  cases hp : Ver.parse s.data.toList with
  | none =>
    have HP := Lib.hid hp
    clear hp
    go_enter Tryd.func30, Tryd.ntmps30
    go_wp2_with fail
    refine (parse_bad _ hs HP.out).mono ?_
    rintro e w1 ⟨a, b, c, d, f, g, rfl, hg⟩
    go_wp2
    go_ret
    exact ⟨rfl, hg.alloc _⟩
  | some v =>
    have HP := Lib.hid hp
    clear hp
    go_enter Tryd.func30, Tryd.ntmps30
    go_wp2_with fail
    refine (parse_good _ hs HP.out).mono ?_
    rintro e w1 ⟨rfl, hg⟩
    go_wp2
    go_ret
    exact ⟨rfl, hg.alloc _⟩

set_option maxHeartbeats 2000000 in
theorem Canonical_calls (s : ByteArray) (w : World) (hs : s.size ≤ 140737488351232) :
    Calls Tryd.prog 35 #[.string s] w fun e w' => e = .returned (.string (B (Ver.canonT s.data.toList))) ∧ Gr w w' := by
  unfold Ver.canonT
  cases hp : Ver.parse s.data.toList with
  | none =>
    have HP := Lib.hid hp
    clear hp
    go_enter Tryd.func35, Tryd.ntmps35
    go_wp2_with fail
    refine (parse_bad _ hs HP.out).mono ?_
    rintro e w1 ⟨a, b, c, d, f, g, rfl, hg⟩
    go_wp2
    go_ret
    exact ⟨rfl, hg.alloc _⟩
  | some v =>
    have HP := Lib.hid hp
    show Calls Tryd.prog 35 #[.string s] w fun e w' => e = .returned (.string (B (canon v))) ∧ Gr w w'
    by_cases hb : v.build = []
    · have hc := canon_short hp hb
      have e1 : ((B v.build).toList == ([] : List UInt8)) = true := by rw [hb]; exact toList_nil
      have e1' : ((B v.build).toList != ([] : List UInt8)) = false := by rw [bne, e1]; rfl
      by_cases hsh : v.short = []
      · have e2 : ((B v.short).toList == ([] : List UInt8)) = true := by rw [hsh]; exact toList_nil
        have e2' : ((B v.short).toList != ([] : List UInt8)) = false := by rw [bne, e2]; rfl
        have HC : Hid (s = B (canon v)) := by show _ = _; rw [← hc, hsh, List.append_nil, B_of]
        clear hp hc hb hsh
        go_enter Tryd.func35, Tryd.ntmps35
        go_wp2_with fail
        refine (parse_good _ hs HP.out).mono ?_
        rintro e w1 ⟨rfl, hg⟩
        go_wp2
        go_ret
        exact ⟨ret_str HC.out, hg.alloc _⟩
      · have e2 : ((B v.short).toList == ([] : List UInt8)) = false := by rw [B_list]; simpa using hsh
        have e2' : ((B v.short).toList != ([] : List UInt8)) = true := by rw [bne, e2]; rfl
        have hz : (B v.short).size ≤ 10 := by
          rw [B_size]
          rcases parse_shape hp with ⟨h0, _⟩ | ⟨h0, _⟩ | ⟨h0, _⟩ <;> rw [h0] <;> decide
        have hadd : Op.stringOp .add s (B v.short) = pure (.string (B (canon v))) :=
          str_add (by rw [← hc, ← B_append, B_of]) (by omega)
        clear hp hc hb hsh hz
        go_enter Tryd.func35, Tryd.ntmps35
        go_wp2_with fail
        refine (parse_good _ hs HP.out).mono ?_
        rintro e w1 ⟨rfl, hg⟩
        go_wp2
        go_ret
        exact ⟨rfl, hg.alloc _⟩
    · have hc := canon_build hp hb
      have e1 : ((B v.build).toList == ([] : List UInt8)) = false := by rw [B_list]; simpa using hb
      have e1' : ((B v.build).toList != ([] : List UInt8)) = true := by rw [bne, e1]; rfl
      obtain ⟨m, hm⟩ : ∃ m, (B v.build).size = m := ⟨_, rfl⟩
      have hm' : m = v.build.length := by rw [← hm, B_size]
      have hle : m ≤ s.size := by rw [Lib.size_eq, hc]; simp; omega
      have hnn : ((s.size : Int) - (m : Int)).toNat = s.size - m := by omega
      have h0 : (0 : Int) ≤ (s.size : Int) - (m : Int) := by omega
      have HV : Hid (s.extract 0 (s.size - m) = B (canon v)) := by
        show _ = _
        have := cut_at hc
        have hl : (canon v).length = s.size - m := by
          have := congrArg List.length hc
          rw [← Lib.size_eq, List.length_append, ← hm'] at this; omega
        rw [hl] at this; exact this
      clear hp hc hb hm'
      go_enter Tryd.func35, Tryd.ntmps35
      go_wp2_with fail
      refine (parse_good _ hs HP.out).mono ?_
      rintro e w1 ⟨rfl, hg⟩
      go_wp2
      go_ret
      exact ⟨ret_str HV.out, hg.alloc _⟩

set_option maxHeartbeats 2000000 in
theorem Max_calls (s t : ByteArray) (w : World) (hs : s.size ≤ 1000) (ht : t.size ≤ 1000) :
    Calls Tryd.prog 43 #[.string s, .string t] w fun e w' => e = .returned (.string (if 0 < Ver.cmp (Ver.canonT s.data.toList) (Ver.canonT t.data.toList) then B (Ver.canonT s.data.toList) else B (Ver.canonT t.data.toList))) ∧ Gr w w' := by
  have hcs : ∀ l : List UInt8, l.length ≤ 1000 → (Ver.canonT l).length ≤ 1010 := fun l hl => by
    unfold Ver.canonT
    cases hp : Ver.parse l with
    | none => simp
    | some v =>
      show (canon v).length ≤ 1010
      by_cases hb : v.build = []
      · have := congrArg List.length (canon_short hp hb)
        have hz : v.short.length ≤ 10 := by rcases parse_shape hp with ⟨h0, _⟩ | ⟨h0, _⟩ | ⟨h0, _⟩ <;> rw [h0] <;> decide
        simp at this; omega
      · have := congrArg List.length (canon_build hp hb)
        simp at this; omega
  have z1 := hcs s.data.toList (by rw [← Lib.size_eq]; exact hs)
  have z2 := hcs t.data.toList (by rw [← Lib.size_eq]; exact ht)
  have C1 := fun w => Canonical_calls s w (by omega)
  have C2 := fun w => Canonical_calls t w (by omega)
  generalize Ver.canonT s.data.toList = a at *
  generalize Ver.canonT t.data.toList = b at *
  have C3 : ∀ w, Calls Tryd.prog 55 #[.string (B a), .string (B b)] w fun e w' => e = .returned (.int .i64 (Ver.cmp a b)) ∧ Gr w w' := fun w => by
    have := Compare_calls (B a) (B b) w (by rw [B_size]; omega) (by rw [B_size]; omega)
    rw [B_data, B_data] at this; exact this
  have H1 := Lib.hid C1
  have H2 := Lib.hid C2
  have H3 := Lib.hid C3
  clear C1 C2 C3 hcs z1 z2
  generalize Ver.cmp a b = c at *
  by_cases hc : 0 < c
  · rw [if_pos hc]
    go_enter Tryd.func43, Tryd.ntmps43
    go_wp2_with fail
    refine (H1.out _).mono ?_
    rintro e w1 ⟨rfl, g1⟩
    go_wp2_with fail
    refine (H2.out _).mono ?_
    rintro e w2 ⟨rfl, g2⟩
    go_wp2_with fail
    refine (H3.out _).mono ?_
    rintro e w3 ⟨rfl, g3⟩
    go_wp2
    go_ret
    exact ⟨rfl, (g1.trans g2).trans g3⟩
  · rw [if_neg hc]
    go_enter Tryd.func43, Tryd.ntmps43
    go_wp2_with fail
    refine (H1.out _).mono ?_
    rintro e w1 ⟨rfl, g1⟩
    go_wp2_with fail
    refine (H2.out _).mono ?_
    rintro e w2 ⟨rfl, g2⟩
    go_wp2_with fail
    refine (H3.out _).mono ?_
    rintro e w3 ⟨rfl, g3⟩
    go_wp2
    go_ret
    exact ⟨rfl, (g1.trans g2).trans g3⟩
end Go.Proofs.YtfpboapgfbehlaaDoor
