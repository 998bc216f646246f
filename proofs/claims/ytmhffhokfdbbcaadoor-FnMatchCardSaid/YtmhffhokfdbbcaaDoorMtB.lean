/- The walk of path.scanChunk over simple patterns. -/
import Derived.Test.YtmhffhokfdbbcaaDoorMtA
import Derived.Test.YtmhffhokfdbbcaaDoorGlob
import Derived.Deep.QuietTactic
import Derived.BigQuiet
namespace Go.Proofs.YtmhffhokfdbbcaaDoor
open Go.RowKit Str
set_option linter.unusedVariables false

/-- what scanChunk hands back -/
def ScanE (l : List UInt8) (e : Ending) : Prop := ∃ star chunk rest, e = .returned (.tuple #[.bool star, .string (B chunk), .string (B rest)]) ∧ Glob.Cut l star chunk rest

theorem okc_no {d : UInt8} (h : okc d.toNat = true) : ((d.toNat : Int) == 92) = false ∧ ((d.toNat : Int) == 91) = false ∧ ((d.toNat : Int) == 93) = false := by
  refine ⟨?_, ?_, ?_⟩ <;>
  · rw [beq_eq_false_iff_ne]
    intro e
    have e' : d.toNat = _ := Int.ofNat.inj e
    rw [e'] at h
    revert h; decide

set_option maxHeartbeats 4000000 in
theorem scanChunk_calls (s : ByteArray) (hok : ∀ c ∈ s.data.toList, okc c.toNat = true) (w : World) (hs : s.size ≤ 1000) :
    Calls Tryd.prog 18 #[.string s] w fun e w' => ScanE s.data.toList e ∧ Drew w w' := by
  have OK := Lib.hid hok
  clear hok
  go_enter Tryd.func18, Tryd.ntmps18
  go_wp2
  go_loopg [0, 2] (s.size + 1) (fun g v0 v2 wr => ∃ (k : Nat) (t : ByteArray), v0 = .string t ∧ v2 = .bool (decide (0 < k)) ∧ t.size < g ∧ t.size ≤ s.size ∧ w = wr ∧ Hid (s.data.toList = List.replicate k 42 ++ t.data.toList))
  case atStart => exact ⟨0, s, rfl, rfl, by omega, Nat.le_refl _, rfl, by show _ = _; simp⟩
  case round =>
    obtain ⟨k, t, rfl, rfl, hg, ht, rfl, HK⟩ := hrel
    by_cases hz : 0 < t.size
    · obtain ⟨d, hd⟩ : ∃ d : UInt8, t[0]'hz = d := ⟨_, rfl⟩
      have hz' : (0 : Int) < (t.size : Int) := by omega
      have hl : t.data.toList = d :: t.data.toList.drop 1 := by
        have h0 : 0 < t.data.toList.length := by rw [← Lib.size_eq]; exact hz
        have := List.drop_eq_getElem_cons h0
        rw [List.drop_zero] at this
        have hdd : t.data.toList[0] = d := Option.some.inj ((List.getElem?_eq_getElem h0).symm.trans (byte_at' t 0 hz hd))
        rw [hdd] at this; exact this
      by_cases h42 : d = 42
      · subst h42
        obtain ⟨t', ht'⟩ : ∃ t', t.extract 1 t.size = t' := ⟨_, rfl⟩
        have hl' : t'.data.toList = t.data.toList.drop 1 := by rw [← ht', Lib.extract_to_end]
        have hs' : t'.size = t.data.toList.length - 1 := by rw [Lib.size_eq, hl', List.length_drop]
        rw [← Lib.size_eq] at hs'
        have hs'' : t'.size + 1 = t.size := by omega
        have HN : Hid (s.data.toList = List.replicate (k + 1) 42 ++ t'.data.toList) := by
          show _ = _
          rw [HK.out, hl', List.replicate_succ', List.append_assoc]
          congr 1
        clear HK hl hl' hs'
        go_wp2
        go_roundg (gk - 1)
        case measure => omega
        case rel => exact ⟨k + 1, t', rfl, by simp, by omega, by omega, rfl, HN⟩
      · have e42 : ((d.toNat : Int) == 42) = false := ne_nat h42
        have HH : Hid (t.data.toList.head? = some d) := by show _ = _; rw [hl]; rfl
        have HAt : Hid (∀ (i : Nat) (hlt : i < t.size) (c : UInt8), t[i]'hlt = c → t.data.toList[i]? = some c) := fun i hlt c hc => byte_at' t i hlt hc
        have HO : Hid (∀ (i : Nat) (c : UInt8), t.data.toList[i]? = some c → okc c.toNat = true) := fun i c hc => OK.out c (by rw [HK.out]; exact List.mem_append_right _ (List.mem_of_getElem? hc))
        clear hl hg
        go_wp2
        go_loopg [2, 5, 6] (t.size + 1) (fun g v2 v5 v6 wx => ∃ i : Nat, v2 = .bool (decide (0 < k)) ∧ v5 = .bool false ∧ v6 = .int .i64 i ∧ t.size < i + g ∧ i ≤ t.size ∧ w = wx ∧ Hid (∀ j c, j < i → t.data.toList[j]? = some c → c ≠ 42))
        case atStart => exact ⟨0, by first | rfl | simp, rfl, rfl, by omega, by omega, rfl, fun j c h => absurd h (by omega)⟩
        case round =>
          obtain ⟨i, rfl, rfl, rfl, hgi, hi, rfl, HF⟩ := hrel
          clear hd hz hz' e42
          by_cases hlt : i < t.size
          · obtain ⟨c, hc⟩ : ∃ c : UInt8, t[i]'hlt = c := ⟨_, rfl⟩
            have hci := HAt.out i hlt c hc
            have hlt' : (i : Int) < (t.size : Int) := by omega
            by_cases hc42 : c = 42
            · subst hc42
              have hi0 : i ≠ 0 := by
                rintro rfl
                have h0 := HH.out
                rw [List.head?_eq_getElem?, hci] at h0
                exact h42 (Option.some.inj h0).symm
              have HC : Hid (ScanE s.data.toList (.returned (.tuple #[.bool (decide (0 < k)), .string (t.extract 0 i), .string (t.extract i t.size)]))) := by
                refine ⟨decide (0 < k), t.data.toList.take i, t.data.toList.drop i, ?_, ⟨k, ?_, by simp⟩, ?_, .inr ⟨t.data.toList.drop (i + 1), ?_⟩, ?_⟩
                · rw [show t.extract 0 i = B (t.data.toList.take i) from of_data (by rw [B_data, Lib.extract_data]; simp), show t.extract i t.size = B (t.data.toList.drop i) from of_data (by rw [B_data, Lib.extract_to_end])]
                · rw [List.take_append_drop]; exact HK.out
                · intro x hx
                  obtain ⟨j, hj, rfl⟩ := List.getElem_of_mem hx
                  rw [List.length_take] at hj
                  refine HF.out j _ (by omega) ?_
                  rw [List.getElem_take]
                  exact List.getElem?_eq_getElem (by omega)
                · obtain ⟨q, hq⟩ := List.getElem?_eq_some_iff.1 hci
                  rw [List.drop_eq_getElem_cons q, hq]
                · intro h
                  have := congrArg List.length h
                  rw [List.length_take, List.length_nil, ← Lib.size_eq] at this
                  omega
              clear HF HAt HO HH HK hgi hci
              go_wp2
              try (go_quiet (fail); go_wp2)
              go_ret3
              exact ⟨HC.out, by first | exact Drew.refl _ | exact (Drew.refl _).drewN _⟩
            · have ec42 : ((c.toNat : Int) == 42) = false := ne_nat hc42
              obtain ⟨n1, n2, n3⟩ := okc_no (HO.out i c hci)
              have HN : Hid (∀ j x, j < i + 1 → t.data.toList[j]? = some x → x ≠ 42) := fun j x hj hx => by
                by_cases e : j = i
                · subst e; rw [hci] at hx; cases hx; exact hc42
                · exact HF.out j x (by omega) hx
              have hc256 := c.toNat_lt
              clear HF HAt HO HH HK hci hc42
              go_wp2
              go_roundg (gk - 1)
              case measure => omega
              case rel => exact ⟨i + 1, by first | rfl | simp, rfl, by go_num, by omega, by omega, rfl, HN⟩
          · have hlt' : ¬ (i : Int) < (t.size : Int) := by omega
            have HC : Hid (ScanE s.data.toList (.returned (.tuple #[.bool (decide (0 < k)), .string t, .string ⟨#[]⟩]))) := by
              refine ⟨decide (0 < k), t.data.toList, [], by rw [B_of]; rfl, ⟨k, by rw [List.append_nil]; exact HK.out, by simp⟩, ?_, .inl rfl, fun _ => rfl⟩
              intro x hx
              obtain ⟨j, hj, rfl⟩ := List.getElem_of_mem hx
              exact HF.out j _ (by rw [← Lib.size_eq] at hj; omega) (List.getElem?_eq_getElem hj)
            clear HF HAt HO HH HK hgi
            go_wp2
            go_ret3
            exact ⟨HC.out, Drew.refl _⟩
    · have hz' : ¬ (0 : Int) < (t.size : Int) := by omega
      have ht0 : t.size = 0 := by omega
      have hle : ¬ (0 : Int) < (t.size : Int) := by omega
      have HC : Hid (ScanE s.data.toList (.returned (.tuple #[.bool (decide (0 < k)), .string t, .string ⟨#[]⟩]))) := by
        have htl : t.data.toList = [] := List.eq_nil_of_length_eq_zero (by rw [← Lib.size_eq]; exact ht0)
        refine ⟨decide (0 < k), t.data.toList, [], by rw [B_of]; rfl, ⟨k, by rw [List.append_nil]; exact HK.out, by simp⟩, ?_, .inl rfl, fun _ => rfl⟩
        rw [htl]; intro x hx; cases hx
      clear HK hg
      go_wp2
      go_loopg [2, 5, 6] 1 (fun g v2 v5 v6 wx => v2 = .bool (decide (0 < k)) ∧ v5 = .bool false ∧ v6 = .int .i64 0 ∧ w = wx)
      case atStart => exact ⟨by first | rfl | simp, rfl, rfl, rfl⟩
      case round =>
        obtain ⟨rfl, rfl, rfl, rfl⟩ := hrel
        go_wp2
        go_ret3
        exact ⟨HC.out, Drew.refl _⟩
end Go.Proofs.YtmhffhokfdbbcaaDoor
