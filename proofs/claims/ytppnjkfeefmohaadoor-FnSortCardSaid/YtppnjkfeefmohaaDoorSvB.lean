/- Walks of the small functions of package semver: isIdentChar, isBadNum, isNum, nextIdent, compareInt. -/
import Derived.Test.YtppnjkfeefmohaaDoorSvA
namespace Go.Proofs.YtppnjkfeefmohaaDoor
open Go.RowKit Str Ver
set_option linter.unusedVariables false

set_option maxHeartbeats 1000000 in
theorem isIdentChar_calls (c : UInt8) (b : Bool) (h : idc c = b) (w : World) :
    Calls Tryd.prog 83 #[.int .u8 c.toNat] w fun e w' => e = .returned (.bool b) ∧ w = w' := by
  have hl := c.toNat_lt
  unfold idc at h
  cases b with
  | true =>
    rw [decide_eq_true_eq] at h
    rcases h with h | h | h | h
    all_goals
      have h45 : ((c.toNat : Int) == 45) = decide (c.toNat = 45) := by rw [Bool.eq_iff_iff, beq_iff_eq, decide_eq_true_eq]; omega
      have h45' : decide (c.toNat = 45) = true ∨ decide (c.toNat = 45) = false := by cases decide (c.toNat = 45) <;> simp
      rcases h45' with e | e <;> rw [e] at h45 <;> clear e
      all_goals
        go_enter Tryd.func83, Tryd.ntmps83
        go_wp2
        go_ret
        exact ⟨rfl, rfl⟩
  | false =>
    rw [decide_eq_false_iff_not] at h
    have h45 : ((c.toNat : Int) == 45) = false := beq_eq_false_iff_ne.2 (by omega)
    rcases (by omega : c.toNat < 45 ∨ (45 < c.toNat ∧ c.toNat < 48) ∨ (57 < c.toNat ∧ c.toNat < 65) ∨ (90 < c.toNat ∧ c.toNat < 97) ∨ 122 < c.toNat) with h' | h' | h' | h' | h'
    all_goals
      clear h
      go_enter Tryd.func83, Tryd.ntmps83
      go_wp2
      go_ret
      exact ⟨ret_bool (by first | rfl | (simp; omega)), rfl⟩

theorem takeWhile_self (p : UInt8 → Bool) : ∀ l : List UInt8, l.takeWhile p = l ↔ l.all p = true
  | [] => by simp
  | c :: l => by
    have ih := takeWhile_self p l
    simp only [List.takeWhile_cons, List.all_cons]
    by_cases h : p c = true
    · rw [if_pos h, h]; simp [ih]
    · rw [if_neg h]; simp [h]

/-- what a scan for figures alone tells -/
theorem scan_all {p : UInt8 → Bool} {l : List UInt8} {k : Nat} (h : Scan p l k) (he : ∀ c, l[k]? = some c → p c = false) : l.all p = decide (k = l.length) := by
  obtain ⟨h1, h2⟩ := h.stop he
  have hk := h.1
  rw [Bool.eq_iff_iff, decide_eq_true_eq, ← takeWhile_self, h1]
  constructor
  · intro ha
    have := congrArg List.length ha
    rw [List.length_take] at this; omega
  · intro e
    rw [e, List.take_length]

set_option maxHeartbeats 1000000 in
theorem isNum_calls (s : ByteArray) (b : Bool) (h : s.data.toList.all dig = b) (w : World) (hs : s.size ≤ 140737488351232) :
    Calls Tryd.prog 65 #[.string s] w fun e w' => e = .returned (.bool b) ∧ w = w' := by
  have HB := Lib.hid h
  clear h
  go_enter Tryd.func65, Tryd.ntmps65
  go_wp2
  go_loopg [3] (s.size + 1) (fun g v wr => ∃ k : Nat, v = .int .i64 k ∧ s.size < k + g ∧ w = wr ∧ Scan dig s.data.toList k)
  case atStart => exact ⟨0, rfl, by omega, rfl, Scan.zero _ _⟩
  case round =>
    obtain ⟨k, rfl, hg, rfl, HS⟩ := hrel
    have hk : k ≤ s.size := by have := HS.1; rw [← Lib.size_eq] at this; exact this
    by_cases hlt : k < s.size
    · obtain ⟨d, hd⟩ : ∃ d : UInt8, s[k]'hlt = d := ⟨_, rfl⟩
      have HD := Lib.hid (byte_at' s k hlt hd)
      have hne : ((k : Int) == (s.size : Int)) = false := by rw [beq_eq_false_iff_ne]; omega
      by_cases hlo2 : 48 ≤ (d.toNat : Int)
      · by_cases hhi2 : (d.toNat : Int) ≤ 57
        · have SN := HS.next HD.out (show dig d = true by unfold dig; simp; omega)
          clear HB HD
          go_wp2
          go_roundg (gk - 1)
          case measure => omega
          case rel => exact ⟨k + 1, by go_num, by omega, rfl, SN⟩
        · have e := scan_all HS (fun x hx => by rw [HD.out] at hx; cases hx; unfold dig; simp; omega)
          rw [HB.out, decide_eq_false (by rw [← Lib.size_eq]; omega)] at e
          subst e
          clear HB HD hg
          go_wp2
          go_ret
          exact ⟨rfl, rfl⟩
      · have e := scan_all HS (fun x hx => by rw [HD.out] at hx; cases hx; unfold dig; simp; omega)
        rw [HB.out, decide_eq_false (by rw [← Lib.size_eq]; omega)] at e
        subst e
        clear HB HD hg
        go_wp2
        go_ret
        exact ⟨rfl, rfl⟩
    · have e := scan_all HS (fun x hx => by rw [byte_none s k hlt] at hx; cases hx)
      have hne : ((k : Int) == (s.size : Int)) = true := by rw [beq_iff_eq]; omega
      rw [HB.out, decide_eq_true (by rw [← Lib.size_eq]; omega)] at e
      subst e
      clear HB hg
      go_wp2
      go_ret
      exact ⟨rfl, rfl⟩

def nextIdentV (l : List UInt8) : Value := .tuple #[.string (B (l.takeWhile (· != 46))), .string (B (l.dropWhile (· != 46)))]

theorem cut_take (s : ByteArray) (k : Nat) : s.extract 0 k = B (s.data.toList.take k) := by conv => lhs; rw [← B_of s]; rw [B_front]
theorem cut_drop (s : ByteArray) (k : Nat) : s.extract k s.size = B (s.data.toList.drop k) := by
  have := B_from s.data.toList k
  rw [B_of s] at this; exact this

set_option maxHeartbeats 1000000 in
theorem nextIdent_calls (s : ByteArray) (w : World) (hs : s.size ≤ 140737488351232) :
    Calls Tryd.prog 64 #[.string s] w fun e w' => e = .returned (nextIdentV s.data.toList) ∧ Drew w w' := by
  go_enter Tryd.func64, Tryd.ntmps64
  go_wp2
  go_loopg [4] (s.size + 1) (fun g v wr => ∃ k : Nat, v = .int .i64 k ∧ s.size < k + g ∧ w = wr ∧ Scan (· != 46) s.data.toList k)
  case atStart => exact ⟨0, rfl, by omega, rfl, Scan.zero _ _⟩
  case round =>
    obtain ⟨k, rfl, hg, rfl, HS⟩ := hrel
    have hk : k ≤ s.size := by have := HS.1; rw [← Lib.size_eq] at this; exact this
    by_cases hlt : k < s.size
    · obtain ⟨d, hd⟩ : ∃ d : UInt8, s[k]'hlt = d := ⟨_, rfl⟩
      have HD := Lib.hid (byte_at' s k hlt hd)
      by_cases hp : d = 46
      · have h46 : ((d.toNat : Int) != 46) = false := by rw [hp]; rfl
        obtain ⟨e1, e2⟩ := HS.stop (fun x hx => by rw [HD.out] at hx; cases hx; rw [hp]; rfl)
        have HV : Hid (nextIdentV s.data.toList = .tuple #[.string (s.extract 0 k), .string (s.extract k s.size)]) := by show _ = _; unfold nextIdentV; rw [e1, e2, cut_take, cut_drop]
        clear hp e1 e2 HD hg HS
        go_wp2
        go_quiet (fail)
        go_wp2
        go_ret2
        exact ⟨by rw [HV.out]; rfl, ⟨_, rfl⟩⟩
      · have h46 : ((d.toNat : Int) != 46) = true := by rw [bne_iff_ne]; intro e; exact hp (UInt8.toNat_inj.1 (by simpa using Int.natCast_inj.1 e))
        have SN := HS.next HD.out (show (d != 46) = true by rw [bne_iff_ne]; exact hp)
        clear hp HD
        go_wp2
        go_roundg (gk - 1)
        case measure => omega
        case rel => exact ⟨k + 1, by go_num, by omega, rfl, SN⟩
    · obtain ⟨e1, e2⟩ := HS.stop (fun x hx => by rw [byte_none s k hlt] at hx; cases hx)
      have HV : Hid (nextIdentV s.data.toList = .tuple #[.string (s.extract 0 k), .string (s.extract k s.size)]) := by show _ = _; unfold nextIdentV; rw [e1, e2, cut_take, cut_drop]
      clear e1 e2 hg HS
      go_wp2
      go_quiet (fail)
      go_wp2
      go_ret2
      exact ⟨by rw [HV.out]; rfl, ⟨_, rfl⟩⟩
end Go.Proofs.YtppnjkfeefmohaaDoor
