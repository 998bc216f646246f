/- The walk of the reference's Unescaped. -/
import Derived.Test.YtndimgajkjkgfaaDoorUn
namespace Go.Proofs.YtndimgajkjkgfaaDoor
open Go.RowKit Str
set_option linter.unusedVariables false

set_option maxRecDepth 100000 in
set_option maxHeartbeats 8000000 in
theorem spUnescaped_calls (s : ByteArray) (w : World) (hs : s.size ≤ 2147483647) :
    Calls Tryd.prog 24 #[.string s] w fun e w' => e = .returned (unVal (Es.unesc false s.data.toList)) ∧ Bl w w' := by
  obtain ⟨i0, hi, hz0, hz1, hz2⟩ := info_parts info_u8
  obtain ⟨R, hR⟩ : ∃ R, Es.unesc false s.data.toList = R := ⟨_, rfl⟩
  have H0 : Hid (R = (Es.unesc false (s.data.toList.drop 0)).map (([] : List UInt8) ++ ·)) := by show _ = _; rw [← hR, List.drop_zero]; simp
  rw [hR]
  clear hR
  have HD8 : Hid (∀ (k : Nat) (hlt : k < s.size) (d : UInt8), s[k]'hlt = d → s.data.toList.drop k = d :: s.data.toList.drop (k + 1)) := fun k hlt d hd => by
    have hl : k < s.data.toList.length := by rw [← Lib.size_eq]; exact hlt
    have hdd : s.data.toList[k] = d := Option.some.inj ((List.getElem?_eq_getElem hl).symm.trans (byte_at' s k hlt hd))
    rw [List.drop_eq_getElem_cons hl, hdd]
  have HD9 : Hid (∀ k, ¬ k < s.size → s.data.toList.drop k = []) := fun k hk => List.drop_eq_nil_of_le (by rw [← Lib.size_eq]; omega)
  go_enter Tryd.func24, Tryd.ntmps24
  go_wp2
  go_loopg [4, 5] (s.size + 1) (fun g v4 v5 wx => ∃ (k : Nat) (done : List UInt8), v5 = .int .i64 k ∧ s.size < k + g ∧ k ≤ s.size ∧ done.length ≤ k ∧ wx.ownsRow w.heap.size 5 1 v4 done.length (bcells done) ∧ Bl w wx ∧ Hid (R = (Es.unesc false (s.data.toList.drop k)).map (done ++ ·)))
  case atStart =>
    refine ⟨0, [], rfl, by omega, by omega, by simp, ?_, (Bl.refl w).alloc _, H0⟩
    exact World.ownsRow_made w #[] 0 (Nat.le_refl _) (Nat.zero_le _) rfl
  case round =>
    clear H0
    rename World => wx
    obtain ⟨k, done, rfl, hg, hk, hdl, hown, hbl, HK⟩ := hrel
    have HBL := Lib.hid hbl
    clear hbl
    by_cases hlt : k < s.size
    · obtain ⟨d, hd⟩ : ∃ d : UInt8, s[k]'hlt = d := ⟨_, rfl⟩
      have hd256 := d.toNat_lt
      have HK2 : Hid (R = (Es.unesc false (d :: s.data.toList.drop (k + 1))).map (done ++ ·)) := by show _ = _; rw [HK.out, HD8.out k hlt d hd]
      clear HK
      by_cases hhi : 128 ≤ d.toNat
      · obtain rfl : R = none := by rw [HK2.out, Es.unesc, if_pos hhi]; rfl
        have f90 : decide ((d.toNat : Int) ≤ 90) = false := decide_eq_false (by omega)
        clear HK2 hg hown
        go_wp2
        go_ret2
        exact ⟨rfl, HBL.out⟩
      by_cases hup : 65 ≤ d.toNat ∧ d.toNat ≤ 90
      · obtain rfl : R = none := by rw [HK2.out, Es.unesc, if_neg hhi, if_neg (by rintro rfl; exact absurd hup (by decide)), if_pos hup]; rfl
        obtain ⟨u1, u2⟩ := hup
        clear HK2 hg hown
        go_wp2
        go_ret2
        exact ⟨rfl, HBL.out⟩
      have dways : d.toNat < 65 ∨ (90 < d.toNat ∧ d.toNat < 128) := by omega
      by_cases h33 : d = 33
      · subst h33
        have HK3 : Hid (R = (Es.unesc true (s.data.toList.drop (k + 1))).map (done ++ ·)) := by
          show _ = _; rw [HK2.out, Es.unesc, if_neg (by decide), if_pos rfl]
        clear HK2 dways hup hhi
        by_cases hlt2 : k + 1 < s.size
        · obtain ⟨e, he⟩ : ∃ e : UInt8, s[k + 1]'hlt2 = e := ⟨_, rfl⟩
          have he256 := e.toNat_lt
          have HK4 : Hid (R = (Es.unesc true (e :: s.data.toList.drop (k + 2))).map (done ++ ·)) := by show _ = _; rw [HK3.out, HD8.out (k + 1) hlt2 e he]
          have hi1 : ¬ (s.size : Int) ≤ (k : Int) + 1 := by omega
          have hi2 : (k : Int) + 1 < (s.size : Int) := by omega
          have hi3 : ((k : Int) + 1).toNat = k + 1 := by omega
          clear HK3
          by_cases hlo : 97 ≤ e.toNat ∧ e.toNat ≤ 122
          · have HN : Hid (R = (Es.unesc false (s.data.toList.drop (k + 2))).map ((done ++ [e - 32]) ++ ·)) := by
              show _ = _; rw [HK4.out, Es.unesc, if_pos hlo, Option.map_map]; congr 1; funext x; simp
            have HX : Hid (bcells (done ++ [e - 32]) = bcells done ++ [.int .u8 ((e.toNat : Int) - 32)]) := by
              show _ = _; rw [bcells_snoc, Es.sub_nat hlo.1]
            have HLEN : Hid ((done ++ [e - 32]).length = done.length + 1) := by show _ = _; simp
            obtain ⟨u1, u2⟩ := hlo
            have hwr : IntKind.u8.wrap ((e.toNat : Int) - 32) = (e.toNat : Int) - 32 := by unfold IntKind.wrap; simp [IntKind.bits, IntKind.signed]; omega
            clear HK4
            go_wp2_with (first
              | (at_builtin; refine wpList_append_own _ rfl _ _ 43 rfl w.heap.size 5 i0 (.int .u8 0) 1 1 Tryd.underlying43 hi hz0 hz1 hz2 rfl (by decide) _ _ _ rfl (hown.alloc _) ⟨wx.heap.size, 0, none⟩ 1 1 [_] rfl rfl (cell_one _ _ _) (one_cell_u8 _) (by unfold maxLen; omega) (by omega) (by have := HBL.out.size; simp; omega) ?_))
            intro v' w2 hown' hgrow _
            have hrow : ∀ k, Value.ownBlock _ = some k → w.heap.size ≤ k := fun k hk => (hown.lt k hk).1
            have HB3 := Lib.hid ((HBL.out.alloc _).grown hgrow hrow)
            have HO2 : Hid (w2.ownsRow w.heap.size 5 1 v' (done ++ [e - 32]).length (bcells (done ++ [e - 32]))) := by
              rw [HLEN.out, HX.out]; exact hown'
            have HDL : Hid ((done ++ [e - 32]).length ≤ k + 2) := by show _ ≤ _; rw [HLEN.out]; omega
            clear hown hown' hgrow hrow HBL HX HLEN
            go_wp2
            go_roundg (gk - 1)
            case measure => omega
            case rel => exact ⟨k + 2, done ++ [e - 32], by go_num, by omega, by omega, HDL.out, HO2.out, HB3.out, HN⟩
          · obtain rfl : R = none := by rw [HK4.out, Es.unesc, if_neg hlo]; rfl
            have eways : e.toNat < 97 ∨ 122 < e.toNat := by omega
            clear HK4 hg hown hlo
            rcases eways with hew | hew
            all_goals
              go_wp2
              go_ret2
              exact ⟨rfl, HBL.out⟩
        · obtain rfl : R = none := by rw [HK3.out, HD9.out (k + 1) hlt2]; rfl
          have hi1 : (s.size : Int) ≤ (k : Int) + 1 := by omega
          clear HK3 hg hown
          go_wp2
          go_ret2
          exact ⟨rfl, HBL.out⟩
      · have e33 : ((d.toNat : Int) == 33) = false := ne_nat h33
        have HN : Hid (R = (Es.unesc false (s.data.toList.drop (k + 1))).map ((done ++ [d]) ++ ·)) := by
          show _ = _; rw [HK2.out, Es.unesc, if_neg hhi, if_neg h33, if_neg hup, Option.map_map]; congr 1; funext x; simp
        have HX : Hid (bcells (done ++ [d]) = bcells done ++ [.int .u8 (d.toNat : Int)]) := bcells_snoc _ _
        have HLEN : Hid ((done ++ [d]).length = done.length + 1) := by show _ = _; simp
        clear HK2 hup h33 hhi
        rcases dways with hdw | ⟨hdw, hdw2⟩
        all_goals
          go_wp2_with (first
            | (at_builtin; refine wpList_append_own _ rfl _ _ 43 rfl w.heap.size 5 i0 (.int .u8 0) 1 1 Tryd.underlying43 hi hz0 hz1 hz2 rfl (by decide) _ _ _ rfl (hown.alloc _) ⟨wx.heap.size, 0, none⟩ 1 1 [_] rfl rfl (cell_one _ _ _) (one_cell_u8 _) (by unfold maxLen; omega) (by omega) (by have := HBL.out.size; simp; omega) ?_))
          intro v' w2 hown' hgrow _
          have hrow : ∀ k, Value.ownBlock _ = some k → w.heap.size ≤ k := fun k hk => (hown.lt k hk).1
          have HB3 := Lib.hid ((HBL.out.alloc _).grown hgrow hrow)
          have HO2 : Hid (w2.ownsRow w.heap.size 5 1 v' (done ++ [d]).length (bcells (done ++ [d]))) := by
            rw [HLEN.out, HX.out]; exact hown'
          have HDL : Hid ((done ++ [d]).length ≤ k + 1) := by show _ ≤ _; rw [HLEN.out]; omega
          clear hown hown' hgrow hrow HBL HX HLEN
          go_wp2
          go_roundg (gk - 1)
          case measure => omega
          case rel => exact ⟨k + 1, done ++ [d], by go_num, by omega, by omega, HDL.out, HO2.out, HB3.out, HN⟩
    · obtain rfl : R = some done := by rw [HK.out, HD9.out k hlt]; simp [Es.unesc]
      have hcv := conv_owned hown
      clear HK hg hown hdl
      go_wp2
      go_ret2
      exact ⟨rfl, HBL.out⟩
end Go.Proofs.YtndimgajkjkgfaaDoor
