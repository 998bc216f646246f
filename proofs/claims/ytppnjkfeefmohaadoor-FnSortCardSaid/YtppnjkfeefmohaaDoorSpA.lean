/- Walks of the reference's small functions on versions: number, Cut, part, figures, series. -/
import Derived.Test.YtppnjkfeefmohaaDoorSvG
namespace Go.Proofs.YtppnjkfeefmohaaDoor
open Go.RowKit Str Ver
set_option linter.unusedVariables false

def numV (a : Nat) (m : List UInt8) : Int := match num m with
  | some (d, _) => ((a + d.length : Nat) : Int)
  | none => -1

set_option maxHeartbeats 2000000 in
theorem number_calls (s : ByteArray) (a : Nat) (w : World) (hs : s.size ≤ 140737488351232) (ha : a ≤ s.size) :
    Calls Tryd.prog 28 #[.string s, .int .i64 a] w fun e w' => e = .returned (.int .i64 (numV a (s.data.toList.drop a))) ∧ w = w' := by
  have hml : (s.data.toList.drop a).length = s.size - a := by rw [List.length_drop, ← Lib.size_eq]
  obtain ⟨m, hm⟩ : ∃ m, s.data.toList.drop a = m := ⟨_, rfl⟩
  have HM := Lib.hid hm
  rw [hm] at hml
  rw [hm]
  have HL := Lib.hid hml
  clear hm hml
  have at_m : ∀ j (h : a + j < s.size), m[j]? = some (s[a + j]'h) := fun j h => by rw [← HM.out, List.getElem?_drop]; exact byte_at s _ h
  have end_m : ∀ j, ¬ a + j < s.size → m[j]? = none := fun j h => List.getElem?_eq_none (by rw [HL.out]; omega)
  -- what is behind the loop
  have tl : ∀ j, a + j ≤ s.size → Scan dig m j → (∀ c, m[j]? = some c → dig c = false) →
      (j = 0 ∧ Hid (numV a m = -1)) ∨ (1 ≤ j ∧ ∃ (h : a < s.size) (c : UInt8), s[a]'h = c ∧
        ((((c.toNat : Int) == 48) = true ∧ 1 < j ∧ Hid (numV a m = -1)) ∨ (((c.toNat : Int) == 48) = true ∧ j = 1 ∧ Hid (numV a m = ((a + j : Nat) : Int))) ∨ (((c.toNat : Int) == 48) = false ∧ Hid (numV a m = ((a + j : Nat) : Int))))) := by
    intro j hj hS he
    have hlen : m.length = s.size - a := HL.out
    by_cases h0 : j = 0
    · subst h0
      refine .inl ⟨rfl, ?_⟩
      have := (hS.stop he).1
      show _ = _
      unfold numV num
      simp [this]
    · refine .inr ⟨by omega, by omega, _, rfl, ?_⟩
      have hc := at_m 0 (by omega)
      have hn := num_upto hc (by omega) hS he
      have htk : (m.take j).length = j := by rw [List.length_take]; omega
      simp only [Nat.add_zero] at hc hn
      by_cases h48 : s[a]'(by omega) = 48
      · by_cases h1 : j = 1
        · refine .inr (.inl ⟨by rw [h48]; rfl, h1, ?_⟩)
          rw [if_neg (by simp [h1])] at hn
          show _ = _
          unfold numV; rw [hn]; simp only; rw [htk]
        · refine .inl ⟨by rw [h48]; rfl, by omega, ?_⟩
          rw [if_pos ⟨h48, h1⟩] at hn
          show _ = _
          unfold numV; rw [hn]
      · refine .inr (.inr ⟨ne_nat h48, ?_⟩)
        rw [if_neg (by simp [h48])] at hn
        show _ = _
        unfold numV; rw [hn]; simp only; rw [htk]
  have AM := Lib.hid at_m
  have EM := Lib.hid end_m
  have TL := Lib.hid tl
  clear at_m end_m tl
  go_enter Tryd.func28, Tryd.ntmps28
  go_wp2
  go_loopg [5] (s.size + 1) (fun g v wr => ∃ k j : Nat, v = .int .i64 k ∧ Hid (k = a + j) ∧ a ≤ k ∧ s.size < k + g ∧ k ≤ s.size ∧ w = wr ∧ Scan dig m j)
  case atStart => exact ⟨a, 0, rfl, rfl, by omega, by omega, ha, rfl, Scan.zero _ _⟩
  case round =>
    obtain ⟨k, j, rfl, HK, hak, hg, hk, rfl, HS⟩ := hrel
    have tailTac : True := trivial
    by_cases hlt : k < s.size
    · obtain ⟨d, hd⟩ : ∃ d : UInt8, s[k]'hlt = d := ⟨_, rfl⟩
      have HD : Hid (m[j]? = some d) := by
        show _ = _
        have hk' := HK.out
        subst hk'
        rw [AM.out j hlt, hd]
      by_cases hx : dig d = true
      · have hx' := hx
        unfold dig at hx'
        rw [decide_eq_true_eq] at hx'
        obtain ⟨hx1, hx2⟩ := hx'
        have SN := HS.next HD.out hx
        have HK2 : Hid (k + 1 = a + (j + 1)) := by have := HK.out; show _ = _; omega
        clear HD hx AM EM TL HL HM
        go_wp2
        go_roundg (gk - 1)
        case measure => omega
        case rel => exact ⟨k + 1, j + 1, by go_num, HK2, by omega, by omega, by omega, rfl, SN⟩
      · have hx' : ¬ (48 ≤ d.toNat ∧ d.toNat ≤ 57) := by unfold dig at hx; simpa using hx
        have T := TL.out j (by have := HK.out; omega) HS (fun x hx2 => by rw [HD.out] at hx2; cases hx2; simpa using hx)
        clear hx HD AM EM TL HL HM
        rcases (by omega : d.toNat < 48 ∨ 57 < d.toNat) with hx1 | hx1
        all_goals
          clear hx'
          rcases T with ⟨hj, HV⟩ | ⟨hj, hlt2, c, hc, ⟨t1, t2, HV⟩ | ⟨t1, t2, HV⟩ | ⟨t1, HV⟩⟩
          · have hka : ((k : Int) == (a : Int)) = true := by have := HK.out; rw [beq_iff_eq]; omega
            clear HK hg HS hj
            go_wp2
            go_ret
            exact ⟨ret_int HV.out.symm, rfl⟩
          · have hka : ((k : Int) == (a : Int)) = false := by have := HK.out; rw [beq_eq_false_iff_ne]; omega
            have hgt : a + 1 < k := by have := HK.out; omega
            clear HK hg HS
            go_wp2
            go_ret
            exact ⟨ret_int HV.out.symm, rfl⟩
          · have hka : ((k : Int) == (a : Int)) = false := by have := HK.out; rw [beq_eq_false_iff_ne]; omega
            have hgt : ¬ a + 1 < k := by have := HK.out; omega
            have HV2 : Hid (numV a m = (k : Int)) := by show _ = _; rw [HV.out]; have := HK.out; omega
            clear HK hg HS
            go_wp2
            go_ret
            exact ⟨ret_int HV2.out.symm, rfl⟩
          · have hka : ((k : Int) == (a : Int)) = false := by have := HK.out; rw [beq_eq_false_iff_ne]; omega
            have HV2 : Hid (numV a m = (k : Int)) := by show _ = _; rw [HV.out]; have := HK.out; omega
            clear HK hg HS
            go_wp2
            go_ret
            exact ⟨ret_int HV2.out.symm, rfl⟩
    · have T := TL.out j (by have := HK.out; omega) HS (fun x hx2 => by rw [EM.out j (by have := HK.out; omega)] at hx2; cases hx2)
      clear AM EM TL HL HM
      rcases T with ⟨hj, HV⟩ | ⟨hj, hlt2, c, hc, ⟨t1, t2, HV⟩ | ⟨t1, t2, HV⟩ | ⟨t1, HV⟩⟩
      · have hka : ((k : Int) == (a : Int)) = true := by have := HK.out; rw [beq_iff_eq]; omega
        clear HK hg HS hj
        go_wp2
        go_ret
        exact ⟨ret_int HV.out.symm, rfl⟩
      · have hka : ((k : Int) == (a : Int)) = false := by have := HK.out; rw [beq_eq_false_iff_ne]; omega
        have hgt : a + 1 < k := by have := HK.out; omega
        clear HK hg HS
        go_wp2
        go_ret
        exact ⟨ret_int HV.out.symm, rfl⟩
      · have hka : ((k : Int) == (a : Int)) = false := by have := HK.out; rw [beq_eq_false_iff_ne]; omega
        have hgt : ¬ a + 1 < k := by have := HK.out; omega
        have HV2 : Hid (numV a m = (k : Int)) := by show _ = _; rw [HV.out]; have := HK.out; omega
        clear HK hg HS
        go_wp2
        go_ret
        exact ⟨ret_int HV2.out.symm, rfl⟩
      · have hka : ((k : Int) == (a : Int)) = false := by have := HK.out; rw [beq_eq_false_iff_ne]; omega
        have HV2 : Hid (numV a m = (k : Int)) := by show _ = _; rw [HV.out]; have := HK.out; omega
        clear HK hg HS
        go_wp2
        go_ret
        exact ⟨ret_int HV2.out.symm, rfl⟩

/-- a text cut at a byte -/
def cutV (b : UInt8) (l : List UInt8) : Value :=
  .tuple #[.string (B (l.takeWhile (· != b))), .string (B (l.dropWhile (· != b)).tail), .bool (!(l.dropWhile (· != b)).isEmpty)]

set_option maxHeartbeats 2000000 in
theorem Cut_calls (s : ByteArray) (b : UInt8) (w : World) (hs : s.size ≤ 140737488351232) :
    Calls Tryd.prog 14 #[.string s, .int .u8 b.toNat] w fun e w' => e = .returned (cutV b s.data.toList) ∧ Drew w w' := by
  go_enter Tryd.func14, Tryd.ntmps14
  go_wp2
  go_loopg [7, 10] (s.size + 1) (fun g v7 v10 wr => ∃ k : Nat, v10 = .int .i64 k ∧ s.size < k + g ∧ w = wr ∧ Scan (· != b) s.data.toList k)
  case atStart => exact ⟨0, rfl, by omega, rfl, Scan.zero _ _⟩
  case round =>
    obtain ⟨k, rfl, hg, rfl, HS⟩ := hrel
    have hk : k ≤ s.size := by have := HS.1; rw [← Lib.size_eq] at this; exact this
    by_cases hlt : k < s.size
    · obtain ⟨d, hd⟩ : ∃ d : UInt8, s[k]'hlt = d := ⟨_, rfl⟩
      have HD := Lib.hid (byte_at' s k hlt hd)
      by_cases hp : d = b
      · have h46 : ((d.toNat : Int) == (b.toNat : Int)) = true := by rw [hp]; exact beq_self_eq_true _
        obtain ⟨e1, e2⟩ := HS.stop (fun x hx => by rw [HD.out] at hx; cases hx; rw [hp]; simp)
        have HV : Hid (cutV b s.data.toList = .tuple #[.string (s.extract 0 k), .string (s.extract (k + 1) s.size), .bool true]) := by
          show _ = _; unfold cutV; rw [e1, e2, cut_take, cut_drop, List.tail_drop, drop_at HD.out]; rfl
        clear hp e1 e2 HD hg HS
        go_wp2
        go_quiet (fail)
        go_wp2
        go_ret3
        exact ⟨by rw [HV.out]; rfl, ⟨_, rfl⟩⟩
      · have h46 : ((d.toNat : Int) == (b.toNat : Int)) = false := ne_nat hp
        have SN := HS.next HD.out (show (d != b) = true by rw [bne_iff_ne]; exact hp)
        clear hp HD
        go_wp2
        go_roundg (gk - 1)
        case measure => omega
        case rel => exact ⟨k + 1, by go_num, by omega, rfl, SN⟩
    · obtain ⟨e1, e2⟩ := HS.stop (fun x hx => by rw [byte_none s k hlt] at hx; cases hx)
      have HV : Hid (cutV b s.data.toList = .tuple #[.string s, .string (B []), .bool false]) := by
        show _ = _; unfold cutV
        rw [e1, e2, List.take_of_length_le (by rw [← Lib.size_eq]; omega), List.drop_eq_nil_of_le (by rw [← Lib.size_eq]; omega), B_of]; rfl
      clear e1 e2 hg HS
      go_wp2
      go_ret3
      exact ⟨by rw [HV.out]; rfl, Drew.refl _⟩
end Go.Proofs.YtppnjkfeefmohaaDoor
