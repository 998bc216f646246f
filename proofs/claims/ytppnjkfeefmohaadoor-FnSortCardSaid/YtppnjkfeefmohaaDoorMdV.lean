/- The walk of utf8.ValidString over a text of bytes below 128: the tables are never read. -/
import Derived.Test.YtppnjkfeefmohaaDoorMdC
import Derived.Lib.ValidAsc
import Derived.Laws.BitsAllLaws
import Derived.Deep.DeepCutAuto
import Derived.Deep.QuietTactic
import Derived.BigQuiet
namespace Go.Proofs.YtppnjkfeefmohaaDoor
open Go.RowKit Str
set_option linter.unusedVariables false

theorem word_calls (s : ByteArray) (ha : Asc s.data.toList) (hs : 8 ≤ s.size) : ∃ n : Nat, n < 18446744073709551616 ∧ n &&& 9259542123273814144 = 0 ∧ ∀ w, Calls Tryd.prog 85 #[.string s] w fun e w' => e = .returned (.int .u64 n) ∧ ∃ q, w' = w.drewN q :=
  ⟨_, Lib.word_lt s, (Lib.word_asc s hs).2 (fun b hb => ha b (List.mem_of_mem_take hb)), fun w => (utf8_word s w hs).mono fun e w' h => h⟩

theorem mask_or {a b : Nat} (h1 : a &&& 9259542123273814144 = 0) (h2 : b &&& 9259542123273814144 = 0) : (a ||| b) &&& 9259542123273814144 = 0 := by
  rw [Nat.and_or_distrib_right, h1, h2]; rfl
theorem or_lt {a b : Nat} (h1 : a < 18446744073709551616) (h2 : b < 18446744073709551616) : a ||| b < 18446744073709551616 := by
  have : a ||| b < 2 ^ 64 := Nat.or_lt_two_pow (by omega) (by omega)
  omega
theorem and_zero {a : Nat} (h : a < 18446744073709551616) (h1 : a &&& 9259542123273814144 = 0) : bits .and .u64 (a : Int) 9259542123273814144 = 0 := by
  have := u64_and_nat a 9259542123273814144 h (by omega)
  rw [h1] at this
  exact this

theorem ext_size (s : ByteArray) (k : Nat) (h : k ≤ s.size) : (s.extract k s.size).size + k = s.size := by
  rw [Lib.size_eq, Lib.extract_to_end, List.length_drop, ← Lib.size_eq]; omega

set_option maxRecDepth 1000000 in
set_option maxHeartbeats 16000000 in
theorem ValidString_calls (s : ByteArray) (ha : Asc s.data.toList) (w : World) (hs : s.size ≤ 140737488351232) :
    Calls Tryd.prog 66 #[.string s] w fun e w' => e = .returned (.bool true) ∧ Drew w w' := by
  have HA := Lib.hid ha
  clear ha
  go_enter Tryd.func66, Tryd.ntmps66
  go_wp2
  go_loopg [0] (s.size + 1) (fun g v0 wr => ∃ t : ByteArray, v0 = .string t ∧ t.size < g ∧ t.size ≤ 140737488351232 ∧ Hid (Asc t.data.toList) ∧ Drew w wr)
  case atStart => exact ⟨s, rfl, by omega, hs, HA, Drew.refl _⟩
  case round =>
    clear HA hs
    obtain ⟨t, rfl, hg, ht, HA, hdw⟩ := hrel
    by_cases h0 : 0 < t.size
    case neg =>
      clear HA hg
      go_wp2
      go_ret
      exact ⟨rfl, hdw⟩
    obtain ⟨g', rfl⟩ : ∃ g', gk = g' + 1 := ⟨gk - 1, by omega⟩
    obtain ⟨x, hx⟩ : ∃ x : UInt8, t[0]'h0 = x := ⟨_, rfl⟩
    have hx128 := HA.out.at 0 h0 hx
    have hx128' : (x.toNat : Int) < 128 := by omega
    have h1' : (1 : Int) ≤ (t.size : Int) := by omega
    have z1 := ext_size t 1 h0
    have HA1 : Hid (Asc (t.extract 1 t.size).data.toList) := HA.out.cut _ _
    obtain ⟨t1, ht1⟩ : ∃ t1, t.extract 1 t.size = t1 := ⟨_, rfl⟩
    rw [ht1] at z1 HA1
    have HD := Lib.hid hdw
    clear hdw
    by_cases c8 : 8 < t1.size
    case neg =>
      have c8z : ¬ ((8 : Int) < (t1.size : Int)) := by omega
      go_wp2
      go_roundg g'
      case measure => omega
      case rel => exact ⟨t1, rfl, by omega, by omega, HA1, HD.out⟩
    have c8z : (8 : Int) < (t1.size : Int) := by omega
    obtain ⟨A1, lA1, mA1, cW1⟩ := word_calls t1 HA1.out (by omega)
    have hand1 : bits .and .u64 (A1 : Int) 9259542123273814144 = 0 := and_zero lA1 mA1
    have z2 := ext_size t1 8 (by omega)
    have HA2 : Hid (Asc (t1.extract 8 t1.size).data.toList) := HA1.out.cut _ _
    obtain ⟨t2, ht2⟩ : ∃ t2, t1.extract 8 t1.size = t2 := ⟨_, rfl⟩
    rw [ht2] at z2 HA2
    have CW1 := Lib.hid cW1
    clear cW1 mA1
    go_wp2_with fail
    refine (CW1.out _).mono ?_
    rintro e W1 ⟨rfl, hd1⟩
    have HD1 := Lib.hid (HD.out.trans (show Drew _ _ from hd1))
    clear hd1 HD CW1
    by_cases c16 : 16 < t2.size
    case neg =>
      have c16z : ¬ ((16 : Int) < (t2.size : Int)) := by omega
      have c16b : decide ((16 : Int) < (t2.size : Int)) = false := decide_eq_false c16z
      go_wp2_with fail
      go_quiet (fail)
      go_wp2
      go_roundg g'
      case measure => omega
      case rel => exact ⟨t2, rfl, by omega, by omega, HA2, HD1.out.drewN _⟩
    have c16z : (16 : Int) < (t2.size : Int) := by omega
    have s8z : (8 : Int) ≤ (t2.size : Int) := by omega
    have z2b := ext_size t2 8 (by omega)
    have HA2b : Hid (Asc (t2.extract 8 t2.size).data.toList) := HA2.out.cut _ _
    obtain ⟨t2b, ht2b⟩ : ∃ t2b, t2.extract 8 t2.size = t2b := ⟨_, rfl⟩
    rw [ht2b] at z2b HA2b
    obtain ⟨A2, lA2, mA2, cW2⟩ := word_calls t2 HA2.out (by omega)
    obtain ⟨A3, lA3, mA3, cW3⟩ := word_calls t2b HA2b.out (by omega)
    have hor2 : bits .or .u64 (A2 : Int) (A3 : Int) = ((A2 ||| A3 : Nat) : Int) := u64_or_nat A2 A3 lA2 lA3
    have hand2 : bits .and .u64 ((A2 ||| A3 : Nat) : Int) 9259542123273814144 = 0 := and_zero (or_lt lA2 lA3) (mask_or mA2 mA3)
    obtain ⟨O2, hO2⟩ : ∃ O2, A2 ||| A3 = O2 := ⟨_, rfl⟩
    rw [hO2] at hor2 hand2
    have z3 := ext_size t2 16 (by omega)
    have HA3 : Hid (Asc (t2.extract 16 t2.size).data.toList) := HA2.out.cut _ _
    obtain ⟨t3, ht3⟩ : ∃ t3, t2.extract 16 t2.size = t3 := ⟨_, rfl⟩
    rw [ht3] at z3 HA3
    clear hO2 mA2 mA3
    go_wp2_with fail
    go_quiet (first | (go_at_call_of 85 t2; refine Calls.quiet_of (cW2 _)) | (go_at_call_of 85 t2b; refine Calls.quiet_of (cW3 _)))
    have HD2 := Lib.hid (HD1.out.drewN nq)
    generalize W1.drewN nq = wq2 at HD2 ⊢
    clear cW2 cW3 HD1
    go_wp2
    go_loopg [0] (t3.size + 1) (fun g2 s0 wx => ∃ u : ByteArray, s0 = .string u ∧ u.size < g2 ∧ u.size ≤ t3.size ∧ Hid (Asc u.data.toList) ∧ Drew w wx)
    case atStart => exact ⟨t3, rfl, by omega, Nat.le_refl _, HA3, HD2.out⟩
    case round =>
      obtain ⟨u, rfl, hgu, hut, HU, hdu⟩ := hrel
      have HDU := Lib.hid hdu
      clear hdu HD2 HA HA1 HA2 HA3 HA2b ht1 ht2 ht3 ht2b
      by_cases c32 : 32 < u.size
      case neg =>
        have c32z : ¬ ((32 : Int) < (u.size : Int)) := by omega
        have c32b : decide ((32 : Int) < (u.size : Int)) = false := decide_eq_false c32z
        go_wp2_with fail
        go_quiet (fail)
        go_wp2
        go_roundg g'
        case measure => omega
        case rel => exact ⟨u, rfl, by omega, by omega, HU, HDU.out.drewN _⟩
      obtain ⟨g3, rfl⟩ : ∃ g3, gk = g3 + 1 := ⟨gk - 1, by omega⟩
      have c32z : (32 : Int) < (u.size : Int) := by omega
      have s8u : (8 : Int) ≤ (u.size : Int) := by omega
      have s16u : (16 : Int) ≤ (u.size : Int) := by omega
      have s24u : (24 : Int) ≤ (u.size : Int) := by omega
      have zb := ext_size u 8 (by omega)
      have zc := ext_size u 16 (by omega)
      have zd := ext_size u 24 (by omega)
      have ze := ext_size u 32 (by omega)
      have HUb : Hid (Asc (u.extract 8 u.size).data.toList) := HU.out.cut _ _
      have HUc : Hid (Asc (u.extract 16 u.size).data.toList) := HU.out.cut _ _
      have HUd : Hid (Asc (u.extract 24 u.size).data.toList) := HU.out.cut _ _
      have HUe : Hid (Asc (u.extract 32 u.size).data.toList) := HU.out.cut _ _
      obtain ⟨ub, hub⟩ : ∃ ub, u.extract 8 u.size = ub := ⟨_, rfl⟩
      obtain ⟨uc, huc⟩ : ∃ uc, u.extract 16 u.size = uc := ⟨_, rfl⟩
      obtain ⟨ud, hud⟩ : ∃ ud, u.extract 24 u.size = ud := ⟨_, rfl⟩
      obtain ⟨ue, hue⟩ : ∃ ue, u.extract 32 u.size = ue := ⟨_, rfl⟩
      rw [hub] at zb HUb
      rw [huc] at zc HUc
      rw [hud] at zd HUd
      rw [hue] at ze HUe
      obtain ⟨B0, lB0, mB0, cB0⟩ := word_calls u HU.out (by omega)
      obtain ⟨B1, lB1, mB1, cB1⟩ := word_calls ub HUb.out (by omega)
      obtain ⟨B2, lB2, mB2, cB2⟩ := word_calls uc HUc.out (by omega)
      obtain ⟨B3, lB3, mB3, cB3⟩ := word_calls ud HUd.out (by omega)
      have ho1 : bits .or .u64 (B0 : Int) (B1 : Int) = ((B0 ||| B1 : Nat) : Int) := u64_or_nat B0 B1 lB0 lB1
      have ho2 : bits .or .u64 (B2 : Int) (B3 : Int) = ((B2 ||| B3 : Nat) : Int) := u64_or_nat B2 B3 lB2 lB3
      have lo1 := or_lt lB0 lB1
      have lo2 := or_lt lB2 lB3
      have mo1 := mask_or mB0 mB1
      have mo2 := mask_or mB2 mB3
      have ho3 : bits .or .u64 ((B0 ||| B1 : Nat) : Int) ((B2 ||| B3 : Nat) : Int) = (((B0 ||| B1) ||| (B2 ||| B3) : Nat) : Int) := u64_or_nat _ _ lo1 lo2
      have hand3 : bits .and .u64 (((B0 ||| B1) ||| (B2 ||| B3) : Nat) : Int) 9259542123273814144 = 0 := and_zero (or_lt lo1 lo2) (mask_or mo1 mo2)
      obtain ⟨P1, hP1⟩ : ∃ P1, B0 ||| B1 = P1 := ⟨_, rfl⟩
      obtain ⟨P2, hP2⟩ : ∃ P2, B2 ||| B3 = P2 := ⟨_, rfl⟩
      rw [hP1, hP2] at ho3 hand3
      rw [hP1] at ho1
      rw [hP2] at ho2
      obtain ⟨P3, hP3⟩ : ∃ P3, P1 ||| P2 = P3 := ⟨_, rfl⟩
      rw [hP3] at ho3 hand3
      clear lo1 lo2 mo1 mo2 hP1 hP2 hP3 mB0 mB1 mB2 mB3
      go_wp2_with fail
      go_quiet (first | (go_at_call_of 85 u; refine Calls.quiet_of (cB0 _)) | (go_at_call_of 85 ub; refine Calls.quiet_of (cB1 _)) | (go_at_call_of 85 uc; refine Calls.quiet_of (cB2 _)) | (go_at_call_of 85 ud; refine Calls.quiet_of (cB3 _)))
      go_wp2
      go_roundg g3
      case measure => omega
      case rel => exact ⟨ue, rfl, by omega, by omega, HUe, HDU.out.drewN _⟩
end Go.Proofs.YtppnjkfeefmohaaDoor
