/- Escaped texts in plain words; walks of the reference's Escaped and of package module's escapeString. -/
import Derived.Test.YtndimgajkjkgfaaDoorSpI
import Derived.Test.YtndimgajkjkgfaaDoorMdQ
namespace Go.Proofs.YtndimgajkjkgfaaDoor
open Go.RowKit Str
set_option linter.unusedVariables false

namespace Es
def up (c : UInt8) : Bool := decide (65 ≤ c.toNat ∧ c.toNat ≤ 90)
def escC (c : UInt8) : List UInt8 := if up c = true then [33, Pe.low c] else [c]
def esc (l : List UInt8) : List UInt8 := l.flatMap escC
theorem escC_up {c : UInt8} (h : 65 ≤ c.toNat ∧ c.toNat ≤ 90) : escC c = [33, Pe.low c] := by unfold escC up; rw [if_pos (decide_eq_true h)]
theorem escC_no {c : UInt8} (h : ¬ (65 ≤ c.toNat ∧ c.toNat ≤ 90)) : escC c = [c] := by unfold escC up; rw [if_neg (by simpa using h)]
theorem esc_len (l : List UInt8) : (esc l).length ≤ 2 * l.length := by
  induction l with
  | nil => exact Nat.le_refl _
  | cons c l ih =>
    unfold esc at *
    rw [List.flatMap_cons, List.length_append, List.length_cons]
    have : (escC c).length ≤ 2 := by unfold escC; split <;> simp
    omega
theorem esc_take {l : List UInt8} {k : Nat} {c : UInt8} (hk : l[k]? = some c) : esc (l.take (k + 1)) = esc (l.take k) ++ escC c := by
  obtain ⟨h, rfl⟩ := List.getElem?_eq_some_iff.1 hk
  unfold esc
  rw [List.take_succ_eq_append_getElem h, List.flatMap_append]
  simp
theorem esc_plain : ∀ l : List UInt8, l.any up = false → esc l = l
  | [], _ => rfl
  | c :: l, h => by
    rw [List.any_cons, Bool.or_eq_false_iff] at h
    have := esc_plain l h.2
    unfold esc at *
    rw [List.flatMap_cons, this]
    unfold escC; rw [h.1]; rfl
end Es

theorem owns_setIter {w : World} {base : Nat} {e : TypeId} {sz : Nat} {v : Value} {n : Nat} {xs : List Value} (h : w.ownsRow base e sz v n xs) {b : Nat} (hb : b < base) (s : ByteArray) (p : Nat) : (setIter w b s p).ownsRow base e sz v n xs := by
  obtain ⟨h1, h2⟩ := h
  refine ⟨h1, ?_⟩
  rcases h2 with h2 | ⟨g, cap, cur, h3, h4, h5, h6⟩
  · exact .inl h2
  · refine .inr ⟨g, cap, cur, h3, h4, ?_, h6⟩
    show (w.heap.setIfInBounds b _)[g]? = _
    rw [Array.getElem?_setIfInBounds_ne (by omega)]; exact h5
theorem iter_grown {w w' : World} {row : Option Nat} {b : Nat} {s : ByteArray} {pos : Nat} (h : IterAt w b s pos) (hg : w.grownBy w' row) (hr : ∀ k, row = some k → b < k) : IterAt w' b s pos := by
  have hl := h.lt
  unfold IterAt at *
  rw [hg.block b hl (fun e => by have := hr b e.symm; omega), h]

theorem cell_two (w : World) (x y : Value) (t : TypeId) : ∀ j u, [x, y][j]? = some u → (w.alloc (.cells #[x, y] t)).cell? ((⟨w.heap.size, 0, none⟩ : Addr).add j) = some u := by
  intro j u hj
  match j, hj with
  | 0, hj => simp at hj; subst hj; simp [Addr.add]
  | 1, hj => simp at hj; subst hj; simp [Addr.add]
theorem two_cell_u8 (a b : Int) : ∀ u ∈ [Value.int .u8 a, Value.int .u8 b], u.oneCell' = true := by intro u hu; simp at hu; rcases hu with rfl | rfl <;> rfl

set_option maxRecDepth 100000 in
set_option maxHeartbeats 4000000 in
theorem Escaped_calls (s : ByteArray) (w : World) (hs : s.size ≤ 1000) :
    Calls Tryd.prog 23 #[.string s] w fun e w' => e = .returned (.string (B (Es.esc s.data.toList))) ∧ Bl w w' := by
  obtain ⟨i0, hi, hz0, hz1, hz2⟩ := info_parts info_u8
  have HL := Lib.hid (Lib.size_eq s)
  go_enter Tryd.func23, Tryd.ntmps23
  go_wp2
  go_loopg [3, 9] (s.size + 1) (fun g v3 v9 wr => ∃ (k : Nat) (done : List UInt8), v9 = .int .i64 k ∧ s.size < k + g ∧ k ≤ s.size ∧ done.length ≤ 2 * k ∧ wr.ownsRow w.heap.size 5 1 v3 done.length (bcells done) ∧ Bl w wr ∧ Hid (done = Es.esc (s.data.toList.take k)))
  case atStart =>
    refine ⟨0, [], rfl, by omega, by omega, by simp, ?_, (Bl.refl w).alloc _, by show _ = _; simp [Es.esc]⟩
    exact World.ownsRow_made w #[] 0 (Nat.le_refl _) (Nat.zero_le _) rfl
  case round =>
    obtain ⟨k, done, rfl, hg, hk, hdl, hown, hbl, HD⟩ := hrel
    by_cases hlt : k < s.size
    · obtain ⟨d, hd⟩ : ∃ d : UInt8, s[k]'hlt = d := ⟨_, rfl⟩
      have hd256 := d.toNat_lt
      have HN0 := Lib.hid (Es.esc_take (byte_at' s k hlt hd))
      have HLO := Lib.hid (Pe.low_nat d)
      have HBL := Lib.hid hbl
      clear hbl
      by_cases hup : 65 ≤ d.toNat ∧ d.toNat ≤ 90
      · have HN : Hid (done ++ [33, Pe.low d] = Es.esc (s.data.toList.take (k + 1))) := by show _ = _; rw [HN0.out, Es.escC_up hup, HD.out]
        have HX : Hid (bcells (done ++ [33, Pe.low d]) = bcells done ++ [.int .u8 33, .int .u8 ((d.toNat : Int) + 32)]) := by
          show _ = _; unfold bcells; rw [List.map_append]; simp only [List.map_cons, List.map_nil]; rw [HLO.out, if_pos hup]; rfl
        have HLEN : Hid ((done ++ [33, Pe.low d]).length = done.length + 2) := by show _ = _; simp
        obtain ⟨u1, u2⟩ := hup
        have hwr : IntKind.u8.wrap ((d.toNat : Int) + 32) = (d.toNat : Int) + 32 := by unfold IntKind.wrap; simp [IntKind.bits, IntKind.signed]; omega
        clear HLO HN0 HD
        go_wp2_with (first
          | (at_builtin; refine wpList_append_own _ rfl _ _ 43 rfl w.heap.size 5 i0 (.int .u8 0) 1 1 Tryd.underlying43 hi hz0 hz1 hz2 rfl (by decide) _ _ _ rfl (hown.alloc _) ⟨wr.heap.size, 0, none⟩ 2 2 [_, _] rfl rfl (cell_two _ _ _ _) (two_cell_u8 _ _) ?c3 ?c4 ?c5 ?_))
        case c3 => unfold maxLen; omega
        case c4 => omega
        case c5 => have := HBL.out.size; simp; omega
        intro v' w2 hown' hgrow _
        have hrow : ∀ k, Value.ownBlock _ = some k → w.heap.size ≤ k := fun k hk => (hown.lt k hk).1
        have HB2 := Lib.hid ((HBL.out.alloc _).grown hgrow hrow)
        have HO2 : Hid (w2.ownsRow w.heap.size 5 1 v' (done ++ [33, Pe.low d]).length (bcells (done ++ [33, Pe.low d]))) := by
          rw [HLEN.out, HX.out]; exact hown'
        have HDL : Hid ((done ++ [33, Pe.low d]).length ≤ 2 * (k + 1)) := by show _ ≤ _; rw [HLEN.out]; omega
        clear hown hown' hgrow hrow HBL HX HLEN
        go_wp2
        go_roundg (gk - 1)
        case measure => omega
        case rel => exact ⟨k + 1, done ++ [33, Pe.low d], by go_num, by omega, by omega, HDL.out, HO2.out, HB2.out, HN⟩
      · have HN : Hid (done ++ [d] = Es.esc (s.data.toList.take (k + 1))) := by show _ = _; rw [HN0.out, Es.escC_no hup, HD.out]
        have HX : Hid (bcells (done ++ [d]) = bcells done ++ [.int .u8 (d.toNat : Int)]) := bcells_snoc _ _
        have HLEN : Hid ((done ++ [d]).length = done.length + 1) := by show _ = _; simp
        have dways : d.toNat < 65 ∨ 90 < d.toNat := by omega
        clear HLO HN0 HD hup
        rcases dways with hdw | hdw
        all_goals
          go_wp2_with (first
            | (at_builtin; refine wpList_append_own _ rfl _ _ 43 rfl w.heap.size 5 i0 (.int .u8 0) 1 1 Tryd.underlying43 hi hz0 hz1 hz2 rfl (by decide) _ _ _ rfl (hown.alloc _) ⟨wr.heap.size, 0, none⟩ 1 1 [_] rfl rfl (cell_one _ _ _) (one_cell_u8 _) (by unfold maxLen; omega) (by omega) (by have := HBL.out.size; simp; omega) ?_))
          intro v' w2 hown' hgrow _
          have hrow : ∀ k, Value.ownBlock _ = some k → w.heap.size ≤ k := fun k hk => (hown.lt k hk).1
          have HB2 := Lib.hid ((HBL.out.alloc _).grown hgrow hrow)
          have HO2 : Hid (w2.ownsRow w.heap.size 5 1 v' (done ++ [d]).length (bcells (done ++ [d]))) := by
            rw [HLEN.out, HX.out]; exact hown'
          have HDL : Hid ((done ++ [d]).length ≤ 2 * (k + 1)) := by show _ ≤ _; rw [HLEN.out]; omega
          clear hown hown' hgrow hrow HBL HX HLEN
          go_wp2
          go_roundg (gk - 1)
          case measure => omega
          case rel => exact ⟨k + 1, done ++ [d], by go_num, by omega, by omega, HDL.out, HO2.out, HB2.out, HN⟩
    · have HV : Hid (Es.esc s.data.toList = done) := by
        show _ = _; rw [HD.out, List.take_of_length_le (by rw [← Lib.size_eq]; omega)]
      have hcv := conv_owned hown
      have HBL := Lib.hid hbl
      clear HD hown hbl hg hdl
      go_wp2
      go_ret
      exact ⟨by rw [HV.out]; rfl, HBL.out⟩

set_option maxRecDepth 100000 in
set_option maxHeartbeats 8000000 in
theorem escapeString_calls (s : ByteArray) (ha : Asc s.data.toList) (hm : (33 : UInt8) ∉ s.data.toList) (w : World) (hs : s.size ≤ 1000) :
    Calls Tryd.prog 51 #[.string s] w fun e w' => e = .returned (.tuple #[.string (B (Es.esc s.data.toList)), .nilIface]) ∧ Bl w w' := by
  obtain ⟨i0, hi, hz0, hz1, hz2⟩ := info_parts info_u8
  have HL := Lib.hid (Lib.size_eq s)
  have HA := Lib.hid ha
  have HM := Lib.hid hm
  have H0 : Hid (s.data.toList.any Es.up = (false || (s.data.toList.drop 0).any Es.up)) := rfl
  clear ha hm
  go_enter Tryd.func51, Tryd.ntmps51
  go_wp2
  go_loopg [4] (s.size + 1) (fun g v4 wr => ∃ (k : Nat) (b : Bool), v4 = .bool b ∧ s.size < k + g ∧ k ≤ s.size ∧ IterAt wr w.heap.size s k ∧ Gr w wr ∧ Hid (s.data.toList.any Es.up = (b || (s.data.toList.drop k).any Es.up)))
  case atStart => exact ⟨0, false, rfl, by omega, by omega, IterAt.start w s, (Gr.refl w).iter s, H0⟩
  case round =>
    clear H0
    obtain ⟨k, b, rfl, hg, hk, hi', hgr, HK⟩ := hrel
    have HI := Lib.hid hi'
    have HG := Lib.hid hgr
    by_cases hlt : k < s.size
    · obtain ⟨d, hd⟩ : ∃ d : UInt8, s[k]'hlt = d := ⟨_, rfl⟩
      have hd128 := HA.out.at k hlt hd
      have hnx : ∀ ty, (Instr.next (.pointer (some ⟨w.heap.size, 0, none⟩)) true ty).run Tryd.prog wr = .ok (.tuple #[.bool true, .int .i64 k, .int .i32 d.toNat]) (setIter wr w.heap.size s (k + 1)) := fun ty => by
        have := next_ascii (P := Tryd.prog) hi' hlt (by rw [hd]; exact hd128) ty
        rw [hd] at this; exact this
      have hl : k < s.data.toList.length := by rw [← Lib.size_eq]; exact hlt
      have hdd : s.data.toList[k] = d := Option.some.inj ((List.getElem?_eq_getElem hl).symm.trans (byte_at' s k hlt hd))
      have hne : d ≠ 33 := fun e => HM.out (by rw [← e, ← hdd]; exact List.getElem_mem hl)
      have e33 : ((d.toNat : Int) == 33) = false := ne_nat hne
      have HN : Hid (s.data.toList.any Es.up = ((b || Es.up d) || (s.data.toList.drop (k + 1)).any Es.up)) := by
        show _ = _; rw [HK.out, List.drop_eq_getElem_cons hl, hdd, List.any_cons, Bool.or_assoc]
      have HI2 := Lib.hid (HI.out.set (pos' := k + 1))
      have HG2 := Lib.hid (HG.out.setIter (b := w.heap.size) (s := s) (pos := k + 1) (Nat.le_refl _))
      clear HK hdd hl hi' hgr HI HG hd hne
      generalize setIter wr w.heap.size s (k + 1) = W at *
      by_cases hup : 65 ≤ d.toNat ∧ d.toNat ≤ 90
      · have HN2 : Hid (s.data.toList.any Es.up = (true || (s.data.toList.drop (k + 1)).any Es.up)) := by
          show _ = _; rw [HN.out, show Es.up d = true from decide_eq_true hup, Bool.or_true]
        obtain ⟨u1, u2⟩ := hup
        clear HN
        go_wp2
        go_roundg (gk - 1)
        case measure => omega
        case rel => exact ⟨k + 1, true, rfl, by omega, by omega, HI2.out, HG2.out, HN2⟩
      · have HN2 : Hid (s.data.toList.any Es.up = (b || (s.data.toList.drop (k + 1)).any Es.up)) := by
          show _ = _; rw [HN.out, show Es.up d = false from decide_eq_false hup, Bool.or_false]
        have dways : d.toNat < 65 ∨ 90 < d.toNat := by omega
        clear HN hup
        rcases dways with hdw | hdw
        all_goals
          go_wp2
          go_roundg (gk - 1)
          case measure => omega
          case rel => exact ⟨k + 1, b, rfl, by omega, by omega, HI2.out, HG2.out, HN2⟩
    · have hnx : ∀ ty, (Instr.next (.pointer (some ⟨w.heap.size, 0, none⟩)) true ty).run Tryd.prog wr = .ok (.tuple #[.bool false]) wr := fun ty => next_end hi' hlt ty
      have HV : Hid (s.data.toList.any Es.up = b) := by
        show _ = _; rw [HK.out, List.drop_eq_nil_of_le (by rw [← Lib.size_eq]; omega)]; simp
      clear HK hi' hgr HI hg
      cases b with
      | false =>
        have HE : Hid (B (Es.esc s.data.toList) = s) := by show _ = _; rw [Es.esc_plain _ HV.out, B_of]
        clear HV
        go_wp2
        go_ret2
        exact ⟨by rw [HE.out]; rfl, Bl.of_gr HG.out⟩
      | true =>
        clear HV hlt hk
        go_wp2
        have HW := Lib.hid (World.ownsRow_nil ((wr.iter s 0)) w.heap.size 5 1)
        go_loopg [7] (s.size + 1) (fun g v7 wx => ∃ (k : Nat) (done : List UInt8), s.size < k + g ∧ k ≤ s.size ∧ done.length ≤ 2 * k ∧ IterAt wx wr.heap.size s k ∧ wx.ownsRow (wr.heap.size + 1) 5 1 v7 done.length (bcells done) ∧ Bl wr wx ∧ Hid (done = Es.esc (s.data.toList.take k)))
        case atStart => exact ⟨0, [], by omega, by omega, by simp, IterAt.start wr s, World.ownsRow_nil _ _ _ _, (Bl.refl wr).iter s, by show _ = _; simp [Es.esc]⟩
        case round =>
          clear HW
          obtain ⟨k, done, hg, hk, hdl, hi', hown, hbl, HD⟩ := hrel
          have HI := Lib.hid hi'
          have HBL := Lib.hid hbl
          rename World => wx
          by_cases hlt : k < s.size
          · obtain ⟨d, hd⟩ : ∃ d : UInt8, s[k]'hlt = d := ⟨_, rfl⟩
            have hd128 := HA.out.at k hlt hd
            have hnx2 : ∀ ty, (Instr.next (.pointer (some ⟨wr.heap.size, 0, none⟩)) true ty).run Tryd.prog wx = .ok (.tuple #[.bool true, .int .i64 k, .int .i32 d.toNat]) (setIter wx wr.heap.size s (k + 1)) := fun ty => by
              have := next_ascii (P := Tryd.prog) hi' hlt (by rw [hd]; exact hd128) ty
              rw [hd] at this; exact this
            have HN0 := Lib.hid (Es.esc_take (byte_at' s k hlt hd))
            have HLO := Lib.hid (Pe.low_nat d)
            have HI2 := Lib.hid (HI.out.set (pos' := k + 1))
            have HB2 := Lib.hid (HBL.out.setIter (b := wr.heap.size) (s := s) (pos := k + 1) (Nat.le_refl _))
            have hownW := owns_setIter hown (b := wr.heap.size) (by omega) s (k + 1)
            have hsz : wr.heap.size + 1 ≤ (setIter wx wr.heap.size s (k + 1)).heap.size := HI2.out.lt
            clear hown hi' hbl HI HBL hd
            generalize setIter wx wr.heap.size s (k + 1) = W at *
            by_cases hup : 65 ≤ d.toNat ∧ d.toNat ≤ 90
            · have HN : Hid (done ++ [33, Pe.low d] = Es.esc (s.data.toList.take (k + 1))) := by show _ = _; rw [HN0.out, Es.escC_up hup, HD.out]
              have HX : Hid (bcells (done ++ [33, Pe.low d]) = bcells done ++ [.int .u8 33, .int .u8 ((d.toNat : Int) + 32)]) := by
                show _ = _; unfold bcells; rw [List.map_append]; simp only [List.map_cons, List.map_nil]; rw [HLO.out, if_pos hup]; rfl
              have HLEN : Hid ((done ++ [33, Pe.low d]).length = done.length + 2) := by show _ = _; simp
              obtain ⟨u1, u2⟩ := hup
              have hwr : IntKind.u8.wrap ((d.toNat : Int) + 32) = (d.toNat : Int) + 32 := by unfold IntKind.wrap; simp [IntKind.bits, IntKind.signed]; omega
              have hsum : (d.toNat : Int) + 97 - 65 = (d.toNat : Int) + 32 := by omega
              clear HLO HN0 HD
              go_wp2_with (first
                | (at_builtin; refine wpList_append_own _ rfl _ _ 43 rfl (wr.heap.size + 1) 5 i0 (.int .u8 0) 1 1 Tryd.underlying43 hi hz0 hz1 hz2 rfl (by decide) _ _ _ rfl (hownW.alloc _) ⟨W.heap.size, 0, none⟩ 2 2 [_, _] rfl rfl (cell_two _ _ _ _) (two_cell_u8 _ _) ?d3 ?d4 ?d5 ?_))
              case d3 => unfold maxLen; omega
              case d4 => omega
              case d5 => simp; omega
              intro v' w2 hown' hgrow _
              have hrow : ∀ k, Value.ownBlock _ = some k → wr.heap.size + 1 ≤ k := fun k hk => (hownW.lt k hk).1
              have HI3 := Lib.hid (iter_grown (Bl.keepIter HI2.out ((Bl.refl W).alloc _)) hgrow (fun k hk => hrow k hk))
              have HB3 := Lib.hid ((HB2.out.alloc _).grown hgrow (fun k hk => Nat.le_of_succ_le (hrow k hk)))
              have HO2 : Hid (w2.ownsRow (wr.heap.size + 1) 5 1 v' (done ++ [33, Pe.low d]).length (bcells (done ++ [33, Pe.low d]))) := by
                rw [HLEN.out, HX.out]; exact hown'
              have HDL : Hid ((done ++ [33, Pe.low d]).length ≤ 2 * (k + 1)) := by show _ ≤ _; rw [HLEN.out]; omega
              clear hownW hown' hgrow hrow HB2 HI2 HX HLEN
              go_wp2
              go_roundg (gk - 1)
              case measure => omega
              case rel => exact ⟨k + 1, done ++ [33, Pe.low d], by omega, by omega, HDL.out, HI3.out, HO2.out, HB3.out, HN⟩
            · have HN : Hid (done ++ [d] = Es.esc (s.data.toList.take (k + 1))) := by show _ = _; rw [HN0.out, Es.escC_no hup, HD.out]
              have HX : Hid (bcells (done ++ [d]) = bcells done ++ [.int .u8 (d.toNat : Int)]) := bcells_snoc _ _
              have HLEN : Hid ((done ++ [d]).length = done.length + 1) := by show _ = _; simp
              have hwr : IntKind.u8.wrap (d.toNat : Int) = (d.toNat : Int) := by unfold IntKind.wrap; simp [IntKind.bits, IntKind.signed]; omega
              have dways : d.toNat < 65 ∨ 90 < d.toNat := by omega
              clear HLO HN0 HD hup
              rcases dways with hdw | hdw
              all_goals
                go_wp2_with (first
                  | (at_builtin; refine wpList_append_own _ rfl _ _ 43 rfl (wr.heap.size + 1) 5 i0 (.int .u8 0) 1 1 Tryd.underlying43 hi hz0 hz1 hz2 rfl (by decide) _ _ _ rfl (hownW.alloc _) ⟨W.heap.size, 0, none⟩ 1 1 [_] rfl rfl (cell_one _ _ _) (one_cell_u8 _) (by unfold maxLen; omega) (by omega) (by simp; omega) ?_))
                intro v' w2 hown' hgrow _
                have hrow : ∀ k, Value.ownBlock _ = some k → wr.heap.size + 1 ≤ k := fun k hk => (hownW.lt k hk).1
                have HI3 := Lib.hid (iter_grown (Bl.keepIter HI2.out ((Bl.refl W).alloc _)) hgrow (fun k hk => hrow k hk))
                have HB3 := Lib.hid ((HB2.out.alloc _).grown hgrow (fun k hk => Nat.le_of_succ_le (hrow k hk)))
                have HO2 : Hid (w2.ownsRow (wr.heap.size + 1) 5 1 v' (done ++ [d]).length (bcells (done ++ [d]))) := by
                  rw [HLEN.out, HX.out]; exact hown'
                have HDL : Hid ((done ++ [d]).length ≤ 2 * (k + 1)) := by show _ ≤ _; rw [HLEN.out]; omega
                clear hownW hown' hgrow hrow HB2 HI2 HX HLEN
                go_wp2
                go_roundg (gk - 1)
                case measure => omega
                case rel => exact ⟨k + 1, done ++ [d], by omega, by omega, HDL.out, HI3.out, HO2.out, HB3.out, HN⟩
          · have hnx2 : ∀ ty, (Instr.next (.pointer (some ⟨wr.heap.size, 0, none⟩)) true ty).run Tryd.prog wx = .ok (.tuple #[.bool false]) wx := fun ty => next_end hi' hlt ty
            have HV : Hid (Es.esc s.data.toList = done) := by
              show _ = _; rw [HD.out, List.take_of_length_le (by rw [← Lib.size_eq]; omega)]
            have hcv := conv_owned hown
            clear HD hown hbl hg hdl hi' HI
            go_wp2
            go_ret2
            exact ⟨by rw [HV.out]; rfl, (Bl.of_gr HG.out).trans HBL.out⟩
end Go.Proofs.YtndimgajkjkgfaaDoor
