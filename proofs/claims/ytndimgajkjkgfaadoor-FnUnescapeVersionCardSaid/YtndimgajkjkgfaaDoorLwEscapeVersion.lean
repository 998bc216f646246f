/- A version has each capital letter as a small one behind a sign of exclamation: the walk of the law FnEscapeVersion. -/
import Derived.Test.YtndimgajkjkgfaaDoorLwAlive
import Derived.Test.YtndimgajkjkgfaaDoorSpM
import Derived.Test.YtndimgajkjkgfaaDoorMdT
namespace Go.Proofs.YtndimgajkjkgfaaDoor
open Go.RowKit Str
set_option linter.unusedVariables false

theorem Pe.asked_two {l : List UInt8} (h : Pe.opn 2 l = false) : Pe.asked 2 l :=
  ⟨fun hk => absurd hk (by omega), fun hm => by
    rcases Ver.split_mem 47 l 126 hm with e | ⟨x, hx, hc⟩
    · exact absurd e (by decide)
    · exact absurd rfl ((Pe.asked_of h x hx).2 hc).1⟩

set_option maxHeartbeats 8000000 in
theorem law_FnEscapeVersion (s : ByteArray) (w : World) (hw : Bad w) (hs : s.size ≤ 140737488351232) :
    Calls Tryd.prog 12 #[.string s] w fun e w' => e = .returned (.bool true) ∧ Below w.heap.size w w' := by
  by_cases h1 : 2147483647 < s.size
  · go_enter Tryd.func12, Tryd.ntmps12
    go_wp2
    go_ret
    exact ⟨rfl, Below.refl _ _⟩
  by_cases h2 : 100 < s.size
  · go_enter Tryd.func12, Tryd.ntmps12
    go_wp2
    go_ret
    exact ⟨rfl, Below.refl _ _⟩
  have HB := Lib.hid hw
  have CA : Hid (∀ w, Bad w → Calls Tryd.prog 19 #[] w fun e w' => e = .returned (.bool true) ∧ Gr w w') := fun w hw => alive_calls w hw
  obtain ⟨o, ho⟩ : ∃ o, Pe.opn 2 s.data.toList = o := ⟨_, rfl⟩
  have CO := Lib.hid fun w => Open_calls s 2 (by omega) o ho w (by omega)
  clear hw
  cases o with
  | true =>
    clear ho
    go_enter Tryd.func12, Tryd.ntmps12
    go_wp2_with fail
    refine (CO.out _).mono ?_
    rintro e w1 ⟨rfl, g1⟩
    go_wp2
    go_ret
    exact ⟨rfl, g1⟩
  | false =>
    have ha := (Pe.opn_parts ho).1
    obtain ⟨el, hel⟩ : ∃ b, Pe.element 2 s.data.toList = b := ⟨_, rfl⟩
    have hei := (Pe.elem_same (by omega) (Pe.asked_two ho)).trans hel
    obtain ⟨M, hM⟩ : ∃ b, s.data.toList.contains 33 = b := ⟨_, rfl⟩
    have C2 := Lib.hid fun w => Element_calls s 2 (by omega) el hel w (by omega)
    have C1 := Lib.hid fun w hw => iEscapeVersion_calls s (el && !M) (by unfold verOk; rw [hei, hM]) ha w hw (by omega)
    have CE := Lib.hid fun w => Escaped_calls s w (by omega)
    have hlen := Es.esc_len s.data.toList
    rw [← Lib.size_eq] at hlen
    have C3 : Hid (el = true → M = false → ∀ w, Bad w → Calls Tryd.prog 25 #[.string (B (Es.esc s.data.toList))] w fun e w' => e = .returned (.tuple #[.string s, .bool true]) ∧ Bl w w') := fun he hm w hw => by
      have := iUnescapeVersion_calls (B (Es.esc s.data.toList)) (some s.data.toList) (by rw [B_data, Es.unesc_esc _ ha (fun h => by rw [List.contains_iff_mem.2 h, hm] at hM; cases hM)]; show (if _ then _ else _) = _; rw [if_pos (hei.trans he)]) w hw (by rw [B_size]; omega)
      rw [show (some s.data.toList).elim (⟨#[]⟩ : ByteArray) B = s from B_of s] at this
      exact this
    have H0 : Hid (M = (false || (s.data.toList.drop 0).contains 33)) := hM.symm
    have HD8 : Hid (∀ (k : Nat) (hlt : k < s.size) (d : UInt8), s[k]'hlt = d → s.data.toList.drop k = d :: s.data.toList.drop (k + 1)) := fun k hlt d hd => by
      have hl : k < s.data.toList.length := by rw [← Lib.size_eq]; exact hlt
      have hdd : s.data.toList[k] = d := Option.some.inj ((List.getElem?_eq_getElem hl).symm.trans (byte_at' s k hlt hd))
      rw [List.drop_eq_getElem_cons hl, hdd]
    have HD9 : Hid (∀ k, ¬ k < s.size → s.data.toList.drop k = []) := fun k hk => List.drop_eq_nil_of_le (by rw [← Lib.size_eq]; omega)
    clear ho ha hel hei hM hlen
    generalize B (Es.esc s.data.toList) = E at *
    go_enter Tryd.func12, Tryd.ntmps12
    go_wp2_with fail
    refine (CO.out _).mono ?_
    rintro e w1 ⟨rfl, g1⟩
    have G1 := Lib.hid g1
    have hb1 := Lib.hid (HB.out.keepB g1)
    clear g1 HB CO
    go_wp2
    go_loopg [3, 21] (s.size + 1) (fun g v3 v21 wx => ∃ (k : Nat) (b : Bool), v3 = .bool b ∧ v21 = .int .i64 k ∧ s.size < k + g ∧ k ≤ s.size ∧ w1 = wx ∧ Hid (M = (b || (s.data.toList.drop k).contains 33)))
    case atStart => exact ⟨0, false, rfl, rfl, by omega, by omega, rfl, H0⟩
    case round =>
      clear H0
      obtain ⟨k, b, rfl, rfl, hg, hk, rfl, HK⟩ := hrel
      by_cases hlt : k < s.size
      · obtain ⟨d, hd⟩ : ∃ d : UInt8, s[k]'hlt = d := ⟨_, rfl⟩
        have hd256 := d.toNat_lt
        have HN : Hid (M = ((b || d == 33) || (s.data.toList.drop (k + 1)).contains 33)) := by
          show _ = _; rw [HK.out, HD8.out k hlt d hd, List.contains_cons, Bool.or_assoc, show ((33 : UInt8) == d) = (d == 33) by rw [Bool.eq_iff_iff, beq_iff_eq, beq_iff_eq]; exact eq_comm]
        clear HK
        cases b with
        | true =>
          have HN2 : Hid (M = (true || (s.data.toList.drop (k + 1)).contains 33)) := by show _ = _; rw [HN.out]; simp
          clear HN
          go_wp2
          go_roundg (gk - 1)
          case measure => omega
          case rel => exact ⟨k + 1, true, rfl, by go_num, by omega, by omega, rfl, HN2⟩
        | false =>
          by_cases h33 : d = 33
          · subst h33
            have HN2 : Hid (M = (true || (s.data.toList.drop (k + 1)).contains 33)) := HN.out
            clear HN
            go_wp2
            go_roundg (gk - 1)
            case measure => omega
            case rel => exact ⟨k + 1, true, rfl, by go_num, by omega, by omega, rfl, HN2⟩
          · have e33 : ((d.toNat : Int) == 33) = false := ne_nat h33
            have HN2 : Hid (M = (false || (s.data.toList.drop (k + 1)).contains 33)) := by show _ = _; rw [HN.out, beq_eq_false_iff_ne.2 h33]; rfl
            clear HN h33
            go_wp2
            go_roundg (gk - 1)
            case measure => omega
            case rel => exact ⟨k + 1, false, rfl, by go_num, by omega, by omega, rfl, HN2⟩
      · obtain rfl : M = b := by rw [HK.out, HD9.out k hlt]; simp
        clear HK hg
        cases M with
        | true =>
          have C1' : Hid (∀ w, Bad w → Calls Tryd.prog 31 #[.string s] w fun e w' => e = .returned (.tuple #[.string ⟨#[]⟩, .bool false]) ∧ Bl w w') := by
            have := C1.out
            rw [show (el && !true) = false by simp] at this; exact this
          clear C1 C2 C3
          go_wp2_with fail
          refine (C1'.out _ hb1.out).mono ?_
          rintro e w3 ⟨rfl, g3⟩
          have hb3 := Lib.hid (hb1.out.keepB g3)
          go_wp2_with fail
          refine (CA.out _ hb3.out).mono ?_
          rintro e w4 ⟨rfl, g4⟩
          go_wp2
          go_ret
          exact ⟨rfl, (G1.out.trans g3).gr g4⟩
        | false =>
          cases el with
          | false =>
            have C1' : Hid (∀ w, Bad w → Calls Tryd.prog 31 #[.string s] w fun e w' => e = .returned (.tuple #[.string ⟨#[]⟩, .bool false]) ∧ Bl w w') := C1.out
            clear C1 C3
            go_wp2_with fail
            refine (C1'.out _ hb1.out).mono ?_
            rintro e w3 ⟨rfl, g3⟩
            go_wp2_with fail
            refine (C2.out _).mono ?_
            rintro e w4 ⟨rfl, g4⟩
            have hb4 := Lib.hid (hb1.out.keepB (g3.trans g4))
            go_wp2_with fail
            refine (CA.out _ hb4.out).mono ?_
            rintro e w5 ⟨rfl, g5⟩
            go_wp2
            go_ret
            exact ⟨rfl, ((G1.out.trans g3).trans g4).gr g5⟩
          | true =>
            have C1' : Hid (∀ w, Bad w → Calls Tryd.prog 31 #[.string s] w fun e w' => e = .returned (.tuple #[.string E, .bool true]) ∧ Bl w w') := C1.out
            have C3' := Lib.hid (C3.out rfl rfl)
            clear C1 C3
            go_wp2_with fail
            refine (C1'.out _ hb1.out).mono ?_
            rintro e w3 ⟨rfl, g3⟩
            go_wp2_with fail
            refine (C2.out _).mono ?_
            rintro e w4 ⟨rfl, g4⟩
            have hb4 := Lib.hid (hb1.out.keepB (g3.trans g4))
            go_wp2_with fail
            refine (C3'.out _ hb4.out).mono ?_
            rintro e w5 ⟨rfl, g5⟩
            go_wp2_with fail
            refine (CE.out _).mono ?_
            rintro e w6 ⟨rfl, g6⟩
            go_wp2
            go_ret
            exact ⟨rfl, (((G1.out.trans g3).trans g4).trans g5).trans g6⟩
end Go.Proofs.YtndimgajkjkgfaaDoor
