/- Walks of package module's searches in a text: zzIndex, zzLastIndex, zzCount. -/
import Derived.Test.YtmhffhokfdbbcaaDoorIter
import Derived.Test.YtmhffhokfdbbcaaDoorSvA
namespace Go.Proofs.YtmhffhokfdbbcaaDoor
open Go.RowKit Str
set_option linter.unusedVariables false

set_option maxHeartbeats 1000000 in
theorem zzIndex_calls (s p : ByteArray) (w : World) (hs : s.size ≤ 140737488351232) (hp : 0 < p.size) (hps : p.size ≤ 200) :
    Calls Tryd.prog 16 #[.string s, .string p] w fun e w' => e = .returned (.int .i64 (idxV p.data.toList s.data.toList)) ∧ w = w' := by
  obtain ⟨R, hR⟩ : ∃ R, idxV p.data.toList s.data.toList = R := ⟨_, rfl⟩
  have H0 : Hid (R = match idx p.data.toList (s.data.toList.drop 0) with | some j => ((0 + j : Nat) : Int) | none => -1) := by
    show _ = _; rw [← hR, List.drop_zero]; unfold idxV; cases idx p.data.toList s.data.toList <;> simp
  rw [hR]
  clear hR
  have HP : Hid (p.data.toList ≠ []) := by
    show _ ≠ _; intro e; have : p.size = 0 := by rw [Lib.size_eq, e]; rfl
    omega
  go_enter Tryd.func16, Tryd.ntmps16
  go_wp2
  go_loopg [5] (s.size + 1) (fun g v wr => ∃ k : Nat, v = .int .i64 k ∧ s.size < k + g ∧ k ≤ s.size ∧ w = wr ∧ Hid (R = match idx p.data.toList (s.data.toList.drop k) with | some j => ((k + j : Nat) : Int) | none => -1))
  case atStart => exact ⟨0, rfl, by omega, by omega, rfl, H0⟩
  case round =>
    clear H0
    obtain ⟨k, rfl, hg, hk, rfl, HR⟩ := hrel
    by_cases hle : k + p.size ≤ s.size
    · have hle' : (k : Int) + (p.size : Int) ≤ (s.size : Int) := by omega
      have hkk : (k : Int) ≤ (k : Int) + (p.size : Int) := by omega
      have hnn : ((k : Int) + (p.size : Int)).toNat = k + p.size := by omega
      have E : ((s.extract k (k + p.size)).toList == p.toList) = p.data.toList.isPrefixOf (s.data.toList.drop k) := by
        rw [prefix_take, Lib.toList_data, Lib.toList_data, Lib.extract_data, Nat.add_sub_cancel_left, ← Lib.size_eq, Bool.eq_iff_iff, beq_iff_eq, decide_eq_true_eq]
      cases hb : p.data.toList.isPrefixOf (s.data.toList.drop k) with
      | true =>
        rw [hb] at E
        obtain rfl : R = (k : Int) := by rw [HR.out, idx_hit HP.out hb]; simp
        clear HR hb hg
        go_wp2
        go_ret
        exact ⟨rfl, rfl⟩
      | false =>
        rw [hb] at E
        have HN : Hid (R = match idx p.data.toList (s.data.toList.drop (k + 1)) with | some j => ((k + 1 + j : Nat) : Int) | none => -1) := by
          show _ = _
          rw [HR.out, idx_miss (byte_at s k (by omega)) hb]
          cases idx p.data.toList (s.data.toList.drop (k + 1)) with
          | none => rfl
          | some j =>
            show ((k + (j + 1) : Nat) : Int) = ((k + 1 + j : Nat) : Int)
            congr 1; omega
        clear HR hb
        go_wp2
        go_roundg (gk - 1)
        case measure => omega
        case rel => exact ⟨k + 1, by go_num, by omega, by omega, rfl, HN⟩
    · have hle' : ¬ (k : Int) + (p.size : Int) ≤ (s.size : Int) := by omega
      obtain rfl : R = -1 := by rw [HR.out, idx_short]; rw [List.length_drop, ← Lib.size_eq, ← Lib.size_eq]; omega
      clear HR hg
      go_wp2
      go_ret
      exact ⟨rfl, rfl⟩

theorem one_byte {s : ByteArray} {k : Nat} (hk : k < s.size) (c : UInt8) : ((s.extract k (k + 1)).toList == ([c] : List UInt8)) = decide (s.data.toList[k]? = some c) := by
  have hl : k < s.data.toList.length := by rw [← Lib.size_eq]; exact hk
  rw [Lib.toList_data, Lib.extract_data, Nat.add_sub_cancel_left, List.drop_eq_getElem_cons hl, List.getElem?_eq_getElem hl]
  rw [Bool.eq_iff_iff, beq_iff_eq, decide_eq_true_eq]
  simp

set_option maxHeartbeats 1000000 in
theorem zzCount_calls (s : ByteArray) (c : UInt8) (w : World) (hs : s.size ≤ 140737488351232) :
    Calls Tryd.prog 14 #[.string s, .string ⟨#[c]⟩] w fun e w' => e = .returned (.int .i64 (s.data.toList.count c : Nat)) ∧ w = w' := by
  have hz1 : (⟨#[c]⟩ : ByteArray).size = 1 := rfl
  have HL := Lib.hid (Lib.size_eq s)
  go_enter Tryd.func14, Tryd.ntmps14
  go_wp2
  go_loopg [5, 6] (s.size + 1) (fun g v5 v6 wr => ∃ k n : Nat, v6 = .int .i64 k ∧ v5 = .int .i64 n ∧ s.size < k + g ∧ k ≤ s.size ∧ n ≤ k ∧ w = wr ∧ Hid ((s.data.toList.take k).count c = n))
  case atStart => exact ⟨0, 0, rfl, rfl, by omega, by omega, by omega, rfl, by show _ = _; simp⟩
  case round =>
    obtain ⟨k, n, rfl, rfl, hg, hk, hn, rfl, HR⟩ := hrel
    by_cases hlt : k < s.size
    · have hle : (k : Int) + 1 ≤ (s.size : Int) := by omega
      have hnn : ((k : Int) + 1).toNat = k + 1 := by omega
      have E := one_byte hlt c
      have hl : k < s.data.toList.length := by rw [← HL.out]; exact hlt
      have T := List.take_succ_eq_append_getElem hl
      by_cases hb : s.data.toList[k]? = some c
      · rw [decide_eq_true hb] at E
        have HN : Hid ((s.data.toList.take (k + 1)).count c = n + 1) := by
          show _ = _
          rw [T, List.count_append, HR.out, (List.getElem?_eq_some_iff.1 hb).2]; simp
        clear HR hb hl T
        go_wp2
        go_roundg (gk - 1)
        case measure => omega
        case rel => exact ⟨k + 1, n + 1, by go_num, by go_num, by omega, by omega, by omega, rfl, HN⟩
      · rw [decide_eq_false hb] at E
        have HN : Hid ((s.data.toList.take (k + 1)).count c = n) := by
          show _ = _
          have hne : (s.data.toList[k] == c) = false := beq_eq_false_iff_ne.2 fun e => hb (by rw [List.getElem?_eq_getElem hl, e])
          rw [T, List.count_append, HR.out, List.count_singleton, hne]; rfl
        clear HR hb hl T
        go_wp2
        go_roundg (gk - 1)
        case measure => omega
        case rel => exact ⟨k + 1, n, by go_num, by go_num, by omega, by omega, by omega, rfl, HN⟩
    · have hle : ¬ (k : Int) + 1 ≤ (s.size : Int) := by omega
      obtain rfl : s.data.toList.count c = n := by
        rw [← HR.out, List.take_of_length_le (by rw [← HL.out]; omega)]
      clear HR hg hn
      go_wp2
      go_ret
      exact ⟨rfl, rfl⟩
end Go.Proofs.YtmhffhokfdbbcaaDoor
