/- What an escaped text stands for, in plain words; walks of the reference's Unescaped and of package module's unescapeString. -/
import Derived.Test.YtndimgajkjkgfaaDoorEs
namespace Go.Proofs.YtndimgajkjkgfaaDoor
open Go.RowKit Str
set_option linter.unusedVariables false

namespace Es
/-- what an escaped text stands for; behind a sign of exclamation: true -/
def unesc : Bool → List UInt8 → Option (List UInt8)
  | false, [] => some []
  | true, [] => none
  | false, c :: l => if 128 ≤ c.toNat then none else if c = 33 then unesc true l else if 65 ≤ c.toNat ∧ c.toNat ≤ 90 then none else (unesc false l).map (c :: ·)
  | true, c :: l => if 97 ≤ c.toNat ∧ c.toNat ≤ 122 then (unesc false l).map ((c - 32) :: ·) else none

theorem sub_nat {c : UInt8} (h : 97 ≤ c.toNat) : ((c - 32).toNat : Int) = (c.toNat : Int) - 32 := by
  have hl := c.toNat_lt
  have : (c - 32).toNat = (256 - 32 + c.toNat) % 256 := UInt8.toNat_sub c 32
  rw [this]; omega

theorem unesc_esc : ∀ l : List UInt8, Asc l → (33 : UInt8) ∉ l → unesc false (esc l) = some l
  | [], _, _ => rfl
  | c :: l, ha, hm => by
    have ih := unesc_esc l (fun x hx => ha x (List.mem_cons_of_mem _ hx)) (fun h => hm (List.mem_cons_of_mem _ h))
    have hc := ha c List.mem_cons_self
    have hne : c ≠ 33 := fun e => hm (by rw [e]; exact List.mem_cons_self)
    have e : esc (c :: l) = escC c ++ esc l := rfl
    rw [e]
    by_cases hup : 65 ≤ c.toNat ∧ c.toNat ≤ 90
    · have hlow := Pe.low_nat c
      rw [if_pos hup] at hlow
      rw [escC_up hup]
      show unesc false (33 :: Pe.low c :: esc l) = _
      have h33 : ¬ (128 ≤ (33 : UInt8).toNat) := by decide
      have hb : (Pe.low c - 32) = c := UInt8.toNat_inj.1 (by have := sub_nat (c := Pe.low c) (by omega); omega)
      rw [unesc, if_neg h33, if_pos rfl, unesc, if_pos (by omega), ih, hb]; rfl
    · rw [escC_no hup]
      show unesc false (c :: esc l) = _
      rw [unesc, if_neg (by omega), if_neg hne, if_neg hup, ih]; rfl

theorem unesc_good : ∀ (l : List UInt8) (b : Bool) (m : List UInt8), unesc b l = some m → m.length ≤ l.length ∧ Asc m
  | [], false, m, h => by cases h; exact ⟨Nat.le_refl _, fun c hc => by cases hc⟩
  | [], true, m, h => by cases h
  | c :: l, false, m, h => by
    rw [unesc] at h
    split at h
    · cases h
    · rename_i h1
      split at h
      · obtain ⟨q1, q2⟩ := unesc_good l true m h
        exact ⟨Nat.le_succ_of_le q1, q2⟩
      · split at h
        · cases h
        · obtain ⟨x, hx, rfl⟩ := Option.map_eq_some_iff.1 h
          obtain ⟨q1, q2⟩ := unesc_good l false x hx
          refine ⟨by simp; exact q1, fun d hd => ?_⟩
          rcases List.mem_cons.1 hd with rfl | hd
          · omega
          · exact q2 d hd
  | c :: l, true, m, h => by
    rw [unesc] at h
    split at h
    · rename_i h1
      obtain ⟨x, hx, rfl⟩ := Option.map_eq_some_iff.1 h
      obtain ⟨q1, q2⟩ := unesc_good l false x hx
      refine ⟨by simp; exact q1, fun d hd => ?_⟩
      rcases List.mem_cons.1 hd with rfl | hd
      · have := sub_nat h1.1; omega
      · exact q2 d hd
    · cases h
end Es

/-- what unescapeString hands back -/
def unVal (R : Option (List UInt8)) : Value := match R with | none => .tuple #[.string ⟨#[]⟩, .bool false] | some l => .tuple #[.string (B l), .bool true]

set_option maxRecDepth 100000 in
set_option maxHeartbeats 8000000 in
theorem unescapeString_calls (s : ByteArray) (w : World) (hs : s.size ≤ 1000) :
    Calls Tryd.prog 52 #[.string s] w fun e w' => e = .returned (unVal (Es.unesc false s.data.toList)) ∧ Bl w w' := by
  obtain ⟨i0, hi, hz0, hz1, hz2⟩ := info_parts info_u8
  obtain ⟨R, hR⟩ : ∃ R, Es.unesc false s.data.toList = R := ⟨_, rfl⟩
  have H0 : Hid (R = (Es.unesc false (s.data.toList.drop 0)).map (([] : List UInt8) ++ ·)) := by show _ = _; rw [← hR, List.drop_zero]; simp
  rw [hR]
  clear hR
  have HD8 : Hid (∀ (k : Nat) (hlt : k < s.size) (d : UInt8), s[k]'hlt = d → s.data.toList.drop k = d :: s.data.toList.drop (k + 1)) := fun k hlt d hd => by
    have hl : k < s.data.toList.length := by rw [← Lib.size_eq]; exact hlt
    have hdd : s.data.toList[k] = d := Option.some.inj ((List.getElem?_eq_getElem hl).symm.trans (byte_at' s k hlt hd))
    rw [List.drop_eq_getElem_cons hl, hdd]
  have HD9 : Hid (∀ k, ¬ k < s.size → s.data.toList.drop k = []) := fun k hk => List.drop_eq_nil_of_le (by rw [← Lib.size_eq]; omega)
  go_enter Tryd.func52, Tryd.ntmps52
  go_wp2
  go_loopg [4, 5] (s.size + 1) (fun g v4 v5 wx => ∃ (k : Nat) (b : Bool) (done : List UInt8), v5 = .bool b ∧ s.size < k + g ∧ k ≤ s.size ∧ done.length ≤ k ∧ IterAt wx w.heap.size s k ∧ wx.ownsRow (w.heap.size + 1) 5 1 v4 done.length (bcells done) ∧ Bl w wx ∧ Hid (R = (Es.unesc b (s.data.toList.drop k)).map (done ++ ·)))
  case atStart => exact ⟨0, false, [], rfl, by omega, by omega, by simp, IterAt.start w s, World.ownsRow_nil _ _ _ _, (Bl.refl w).iter s, H0⟩
  case round =>
    clear H0
    rename World => wx
    obtain ⟨k, b, done, rfl, hg, hk, hdl, hi', hown, hbl, HK⟩ := hrel
    have HI := Lib.hid hi'
    have HBL := Lib.hid hbl
    by_cases hlt : k < s.size
    · obtain ⟨d, hd⟩ : ∃ d : UInt8, s[k]'hlt = d := ⟨_, rfl⟩
      have hd256 := d.toNat_lt
      have HK2 : Hid (R = (Es.unesc b (d :: s.data.toList.drop (k + 1))).map (done ++ ·)) := by show _ = _; rw [HK.out, HD8.out k hlt d hd]
      clear HK
      by_cases hhi : 128 ≤ d.toNat
      · obtain ⟨q1, q2⟩ := decode_high s k hlt (by rw [hd]; exact hhi)
        have hnx : ∀ ty, (Instr.next (.pointer (some ⟨w.heap.size, 0, none⟩)) true ty).run Tryd.prog wx = .ok (.tuple #[.bool true, .int .i64 k, .int .i32 (Utf8.decode s k).1]) (setIter wx w.heap.size s (k + (Utf8.decode s k).2)) := fun ty => next_any hi' hlt ty
        obtain rfl : R = none := by
          rw [HK2.out]
          cases b with
          | false => rw [Es.unesc, if_pos hhi]; rfl
          | true => rw [Es.unesc, if_neg (by omega)]; rfl
        have HB2 := Lib.hid (HBL.out.setIter (b := w.heap.size) (s := s) (pos := k + (Utf8.decode s k).2) (Nat.le_refl _))
        clear HK2 hg hi' hbl hown HI HBL hd hdl
        generalize setIter wx w.heap.size s (k + (Utf8.decode s k).2) = W at *
        generalize (Utf8.decode s k).1 = r at *
        go_wp2
        go_ret2
        exact ⟨rfl, HB2.out⟩
      have hd128 : d.toNat < 128 := by omega
      have hnx : ∀ ty, (Instr.next (.pointer (some ⟨w.heap.size, 0, none⟩)) true ty).run Tryd.prog wx = .ok (.tuple #[.bool true, .int .i64 k, .int .i32 d.toNat]) (setIter wx w.heap.size s (k + 1)) := fun ty => by
        have := next_ascii (P := Tryd.prog) hi' hlt (by rw [hd]; exact hd128) ty
        rw [hd] at this; exact this
      have HI2 := Lib.hid (HI.out.set (pos' := k + 1))
      have HB2 := Lib.hid (HBL.out.setIter (b := w.heap.size) (s := s) (pos := k + 1) (Nat.le_refl _))
      have hownW := owns_setIter hown (b := w.heap.size) (by omega) s (k + 1)
      have hsz : w.heap.size + 1 ≤ (setIter wx w.heap.size s (k + 1)).heap.size := HI2.out.lt
      clear hown hi' hbl HI HBL hd hhi
      generalize setIter wx w.heap.size s (k + 1) = W at *
      cases b with
      | true =>
        by_cases hlo : 97 ≤ d.toNat ∧ d.toNat ≤ 122
        · have HN : Hid (R = (Es.unesc false (s.data.toList.drop (k + 1))).map ((done ++ [d - 32]) ++ ·)) := by
            show _ = _; rw [HK2.out, Es.unesc, if_pos hlo, Option.map_map]; congr 1; funext x; simp
          have HX : Hid (bcells (done ++ [d - 32]) = bcells done ++ [.int .u8 ((d.toNat : Int) - 32)]) := by
            show _ = _; rw [bcells_snoc, Es.sub_nat hlo.1]
          have HLEN : Hid ((done ++ [d - 32]).length = done.length + 1) := by show _ = _; simp
          obtain ⟨u1, u2⟩ := hlo
          have hwr : IntKind.u8.wrap ((d.toNat : Int) - 32) = (d.toNat : Int) - 32 := by unfold IntKind.wrap; simp [IntKind.bits, IntKind.signed]; omega
          have hsum : (d.toNat : Int) + 65 - 97 = (d.toNat : Int) - 32 := by omega
          clear HK2
          go_wp2_with (first
            | (at_builtin; refine wpList_append_own _ rfl _ _ 43 rfl (w.heap.size + 1) 5 i0 (.int .u8 0) 1 1 Tryd.underlying43 hi hz0 hz1 hz2 rfl (by decide) _ _ _ rfl (hownW.alloc _) ⟨W.heap.size, 0, none⟩ 1 1 [_] rfl rfl (cell_one _ _ _) (one_cell_u8 _) (by unfold maxLen; omega) (by omega) (by simp; omega) ?_))
          intro v' w2 hown' hgrow _
          have hrow : ∀ k, Value.ownBlock _ = some k → w.heap.size + 1 ≤ k := fun k hk => (hownW.lt k hk).1
          have HI3 := Lib.hid (iter_grown (Bl.keepIter HI2.out ((Bl.refl W).alloc _)) hgrow (fun k hk => hrow k hk))
          have HB3 := Lib.hid ((HB2.out.alloc _).grown hgrow (fun k hk => Nat.le_of_succ_le (hrow k hk)))
          have HO2 : Hid (w2.ownsRow (w.heap.size + 1) 5 1 v' (done ++ [d - 32]).length (bcells (done ++ [d - 32]))) := by
            rw [HLEN.out, HX.out]; exact hown'
          have HDL : Hid ((done ++ [d - 32]).length ≤ k + 1) := by show _ ≤ _; rw [HLEN.out]; omega
          clear hownW hown' hgrow hrow HB2 HI2 HX HLEN
          go_wp2
          go_roundg (gk - 1)
          case measure => omega
          case rel => exact ⟨k + 1, false, done ++ [d - 32], rfl, by omega, by omega, HDL.out, HI3.out, HO2.out, HB3.out, HN⟩
        · obtain rfl : R = none := by rw [HK2.out, Es.unesc, if_neg hlo]; rfl
          have dways : d.toNat < 97 ∨ 122 < d.toNat := by omega
          clear HK2 hg hownW hlo
          rcases dways with hdw | hdw
          all_goals
            go_wp2
            go_ret2
            exact ⟨rfl, HB2.out⟩
      | false =>
        by_cases h33 : d = 33
        · subst h33
          have HN : Hid (R = (Es.unesc true (s.data.toList.drop (k + 1))).map (done ++ ·)) := by
            show _ = _; rw [HK2.out, Es.unesc, if_neg (by decide), if_pos rfl]
          clear HK2
          have HO2 := Lib.hid hownW
          clear hownW
          go_wp2
          go_roundg (gk - 1)
          case measure => omega
          case rel => exact ⟨k + 1, true, done, rfl, by omega, by omega, by omega, HI2.out, HO2.out, HB2.out, HN⟩
        have e33 : ((d.toNat : Int) == 33) = false := ne_nat h33
        by_cases hup : 65 ≤ d.toNat ∧ d.toNat ≤ 90
        · obtain rfl : R = none := by rw [HK2.out, Es.unesc, if_neg (by omega), if_neg h33, if_pos hup]; rfl
          obtain ⟨u1, u2⟩ := hup
          clear HK2 hg hownW h33
          go_wp2
          go_ret2
          exact ⟨rfl, HB2.out⟩
        · have HN : Hid (R = (Es.unesc false (s.data.toList.drop (k + 1))).map ((done ++ [d]) ++ ·)) := by
            show _ = _; rw [HK2.out, Es.unesc, if_neg (by omega), if_neg h33, if_neg hup, Option.map_map]; congr 1; funext x; simp
          have HX : Hid (bcells (done ++ [d]) = bcells done ++ [.int .u8 (d.toNat : Int)]) := bcells_snoc _ _
          have HLEN : Hid ((done ++ [d]).length = done.length + 1) := by show _ = _; simp
          have hwr : IntKind.u8.wrap (d.toNat : Int) = (d.toNat : Int) := by unfold IntKind.wrap; simp [IntKind.bits, IntKind.signed]; omega
          have dways : d.toNat < 65 ∨ 90 < d.toNat := by omega
          clear HK2 hup h33
          rcases dways with hdw | hdw
          all_goals
            go_wp2_with (first
              | (at_builtin; refine wpList_append_own _ rfl _ _ 43 rfl (w.heap.size + 1) 5 i0 (.int .u8 0) 1 1 Tryd.underlying43 hi hz0 hz1 hz2 rfl (by decide) _ _ _ rfl (hownW.alloc _) ⟨W.heap.size, 0, none⟩ 1 1 [_] rfl rfl (cell_one _ _ _) (one_cell_u8 _) (by unfold maxLen; omega) (by omega) (by simp; omega) ?_))
            intro v' w2 hown' hgrow _
            have hrow : ∀ k, Value.ownBlock _ = some k → w.heap.size + 1 ≤ k := fun k hk => (hownW.lt k hk).1
            have HI3 := Lib.hid (iter_grown (Bl.keepIter HI2.out ((Bl.refl W).alloc _)) hgrow (fun k hk => hrow k hk))
            have HB3 := Lib.hid ((HB2.out.alloc _).grown hgrow (fun k hk => Nat.le_of_succ_le (hrow k hk)))
            have HO2 : Hid (w2.ownsRow (w.heap.size + 1) 5 1 v' (done ++ [d]).length (bcells (done ++ [d]))) := by
              rw [HLEN.out, HX.out]; exact hown'
            have HDL : Hid ((done ++ [d]).length ≤ k + 1) := by show _ ≤ _; rw [HLEN.out]; omega
            clear hownW hown' hgrow hrow HB2 HI2 HX HLEN
            go_wp2
            go_roundg (gk - 1)
            case measure => omega
            case rel => exact ⟨k + 1, false, done ++ [d], rfl, by omega, by omega, HDL.out, HI3.out, HO2.out, HB3.out, HN⟩
    · have hnx : ∀ ty, (Instr.next (.pointer (some ⟨w.heap.size, 0, none⟩)) true ty).run Tryd.prog wx = .ok (.tuple #[.bool false]) wx := fun ty => next_end hi' hlt ty
      have HRR : Hid (R = (Es.unesc b []).map (done ++ ·)) := by show _ = _; rw [HK.out, HD9.out k hlt]
      clear HK hg hi' hbl HI hdl
      cases b with
      | true =>
        obtain rfl : R = none := HRR.out
        clear HRR hown
        go_wp2
        go_ret2
        exact ⟨rfl, HBL.out⟩
      | false =>
        obtain rfl : R = some done := by rw [HRR.out]; simp [Es.unesc]
        have hcv := conv_owned hown
        clear HRR hown
        go_wp2
        go_ret2
        exact ⟨rfl, HBL.out⟩
end Go.Proofs.YtndimgajkjkgfaaDoor
