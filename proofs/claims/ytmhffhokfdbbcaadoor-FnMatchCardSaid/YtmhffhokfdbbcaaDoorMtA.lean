/- The guard of the law FnMatch: which signs a text may have. -/
import Derived.Test.YtmhffhokfdbbcaaDoorMdA
namespace Go.Proofs.YtmhffhokfdbbcaaDoor
open Go.RowKit Str
set_option linter.unusedVariables false

/-- the signs of a simple text -/
def okc (n : Nat) : Bool := decide (97 ≤ n ∧ n ≤ 122) || (decide (48 ≤ n ∧ n ≤ 57) || (n == 46 || (n == 45 || (n == 42 || (n == 63 || (n == 47 || n == 44))))))
/-- what the guard tells -/
def SimE (l : List UInt8) (e : Ending) : Prop := ∃ r, e = .returned (.bool r) ∧ (r = true → ∀ c ∈ l, okc c.toNat = true)
theorem SimE.no (l : List UInt8) : SimE l (.returned (.bool false)) := ⟨false, rfl, fun h => by cases h⟩

theorem byte_is {d : UInt8} {n : Nat} (h : d.toNat = n) (m : UInt8) (hm : m.toNat = n) : d = m := UInt8.toNat_inj.1 (by omega)

set_option maxHeartbeats 8000000 in
theorem simple_calls (s : ByteArray) (w : World) (hs : s.size ≤ 1000) :
    Calls Tryd.prog 4 #[.string s] w fun e w' => SimE s.data.toList e ∧ w = w' := by
  have HL := Lib.hid (Lib.size_eq s)
  have HAt : Hid (∀ (k : Nat) (hlt : k < s.size) (d : UInt8), s[k]'hlt = d → s.data.toList[k]? = some d) := fun k hlt d hd => byte_at' s k hlt hd
  go_enter Tryd.func4, Tryd.ntmps4
  go_wp2
  go_loopg [7] (s.size + 1) (fun g v7 wr => ∃ k : Nat, v7 = .int .i64 k ∧ s.size < k + g ∧ k ≤ s.size ∧ w = wr ∧ Hid (∀ j c, j < k → s.data.toList[j]? = some c → okc c.toNat = true))
  case atStart => exact ⟨0, rfl, by omega, by omega, rfl, fun j c h => absurd h (by omega)⟩
  case round =>
    obtain ⟨k, rfl, hg, hk, rfl, HK⟩ := hrel
    by_cases hlt : k < s.size
    · obtain ⟨d, hd⟩ : ∃ d : UInt8, s[k]'hlt = d := ⟨_, rfl⟩
      have hd256 := d.toNat_lt
      have HD := Lib.hid (HAt.out k hlt d hd)
      have next : okc d.toNat = true → Hid (∀ j c, j < k + 1 → s.data.toList[j]? = some c → okc c.toNat = true) := fun ho j c hj hc => by
        by_cases e : j = k
        · subst e; rw [HD.out] at hc; cases hc; exact ho
        · exact HK.out j c (by omega) hc
      have NX := Lib.hid next
      clear next HK
      by_cases hok : okc d.toNat = true
      · have HN := NX.out hok
        clear NX
        have ways : (97 ≤ d.toNat ∧ d.toNat ≤ 122) ∨ (48 ≤ d.toNat ∧ d.toNat ≤ 57) ∨ d = 46 ∨ d = 45 ∨ d = 42 ∨ d = 63 ∨ d = 44 ∨ d = 47 := by
          unfold okc at hok
          simp only [Bool.or_eq_true, decide_eq_true_eq, beq_iff_eq] at hok
          rcases hok with h | h | h | h | h | h | h | h
          · exact .inl h
          · exact .inr (.inl h)
          · exact .inr (.inr (.inl (byte_is h 46 rfl)))
          · exact .inr (.inr (.inr (.inl (byte_is h 45 rfl))))
          · exact .inr (.inr (.inr (.inr (.inl (byte_is h 42 rfl)))))
          · exact .inr (.inr (.inr (.inr (.inr (.inl (byte_is h 63 rfl))))))
          · exact .inr (.inr (.inr (.inr (.inr (.inr (.inr (byte_is h 47 rfl)))))))
          · exact .inr (.inr (.inr (.inr (.inr (.inr (.inl (byte_is h 44 rfl)))))))
        clear hok
        have zk : ¬ (0 : Int) < (k : Int) ∨ ((0 : Int) < (k : Int) ∧ ∃ (p1 : k - 1 < s.size) (pc : UInt8), s[k - 1]'p1 = pc) := by
          by_cases h : 0 < k
          · exact .inr ⟨by omega, by omega, _, rfl⟩
          · exact .inl (by omega)
        rcases zk with zk | ⟨zk, p1, pc, hpc⟩
        · clear HAt HL HD
          rcases ways with ⟨u1, u2⟩ | ⟨u1, u2⟩ | rfl | rfl | rfl | rfl | rfl | rfl
          all_goals
            go_wp2
            go_roundg (gk - 1)
            case measure => omega
            case rel => exact ⟨k + 1, by go_num, by omega, by omega, rfl, HN⟩
        · have hk1 : (0 : Int) ≤ (k : Int) - 1 := by omega
          have hk2 : ((k : Int) - 1).toNat = k - 1 := by omega
          have hk3 : (k : Int) - 1 < (s.size : Int) := by omega
          clear HAt HL HD
          by_cases h47 : pc = 47
          · subst h47
            rcases ways with ⟨u1, u2⟩ | ⟨u1, u2⟩ | rfl | rfl | rfl | rfl | rfl | rfl
            case inr.inr.inr.inr.inr.inr.inr =>
              clear hg
              go_wp2
              go_ret
              exact ⟨SimE.no _, rfl⟩
            case inl =>
              have ne47 : ((d.toNat : Int) == 47) = false := beq_eq_false_iff_ne.2 (by omega)
              go_wp2
              go_roundg (gk - 1)
              case measure => omega
              case rel => exact ⟨k + 1, by go_num, by omega, by omega, rfl, HN⟩
            case inr.inl =>
              have ne47 : ((d.toNat : Int) == 47) = false := beq_eq_false_iff_ne.2 (by omega)
              go_wp2
              go_roundg (gk - 1)
              case measure => omega
              case rel => exact ⟨k + 1, by go_num, by omega, by omega, rfl, HN⟩
            all_goals
              go_wp2
              go_roundg (gk - 1)
              case measure => omega
              case rel => exact ⟨k + 1, by go_num, by omega, by omega, rfl, HN⟩
          · have p47 : ((pc.toNat : Int) == 47) = false := ne_nat h47
            clear h47
            rcases ways with ⟨u1, u2⟩ | ⟨u1, u2⟩ | rfl | rfl | rfl | rfl | rfl | rfl
            case inl =>
              have ne47 : ((d.toNat : Int) == 47) = false := beq_eq_false_iff_ne.2 (by omega)
              go_wp2
              go_roundg (gk - 1)
              case measure => omega
              case rel => exact ⟨k + 1, by go_num, by omega, by omega, rfl, HN⟩
            case inr.inl =>
              have ne47 : ((d.toNat : Int) == 47) = false := beq_eq_false_iff_ne.2 (by omega)
              go_wp2
              go_roundg (gk - 1)
              case measure => omega
              case rel => exact ⟨k + 1, by go_num, by omega, by omega, rfl, HN⟩
            all_goals
              go_wp2
              go_roundg (gk - 1)
              case measure => omega
              case rel => exact ⟨k + 1, by go_num, by omega, by omega, rfl, HN⟩
      · have hn : (d.toNat < 97 ∨ 122 < d.toNat) ∧ (d.toNat < 48 ∨ 57 < d.toNat) ∧ d.toNat ≠ 46 ∧ d.toNat ≠ 45 ∧ d.toNat ≠ 42 ∧ d.toNat ≠ 63 ∧ d.toNat ≠ 47 ∧ d.toNat ≠ 44 := by
          unfold okc at hok
          simp only [Bool.or_eq_true, decide_eq_true_eq, beq_iff_eq, not_or] at hok
          obtain ⟨n1, n2, n3, n4, n5, n6, n7, n8⟩ := hok
          exact ⟨by omega, by omega, n3, n4, n5, n6, n7, n8⟩
        obtain ⟨n1, n2, n3, n4, n5, n6, n7, n8⟩ := hn
        have e1 : ((d.toNat : Int) == 46) = false := beq_eq_false_iff_ne.2 (by omega)
        have e2 : ((d.toNat : Int) == 45) = false := beq_eq_false_iff_ne.2 (by omega)
        have e3 : ((d.toNat : Int) == 42) = false := beq_eq_false_iff_ne.2 (by omega)
        have e4 : ((d.toNat : Int) == 63) = false := beq_eq_false_iff_ne.2 (by omega)
        have e5 : ((d.toNat : Int) == 47) = false := beq_eq_false_iff_ne.2 (by omega)
        have e6 : ((d.toNat : Int) == 44) = false := beq_eq_false_iff_ne.2 (by omega)
        clear HAt HL HD NX hok hg n3 n4 n5 n6 n7 n8
        by_cases m1 : d.toNat < 48
        · clear n1 n2
          go_wp2
          go_ret
          exact ⟨SimE.no _, rfl⟩
        · have f57 : decide ((d.toNat : Int) ≤ 57) = false := decide_eq_false (by omega)
          by_cases m2 : d.toNat < 97
          · clear n1 n2
            go_wp2
            go_ret
            exact ⟨SimE.no _, rfl⟩
          · have f122 : decide ((d.toNat : Int) ≤ 122) = false := decide_eq_false (by omega)
            clear n1 n2
            go_wp2
            go_ret
            exact ⟨SimE.no _, rfl⟩
    · have HA : Hid (∀ c ∈ s.data.toList, okc c.toNat = true) := fun c hc => by
        obtain ⟨j, hj, rfl⟩ := List.getElem_of_mem hc
        exact HK.out j _ (by rw [← HL.out] at hj; omega) (List.getElem?_eq_getElem hj)
      clear hg HK
      go_wp2
      go_ret
      exact ⟨⟨true, rfl, fun _ => HA.out⟩, rfl⟩
end Go.Proofs.YtmhffhokfdbbcaaDoor
