/- Walks of the reference's Element and Import. -/
import Derived.Test.YtndimgajkjkgfaaDoorSpI
namespace Go.Proofs.YtndimgajkjkgfaaDoor
open Go.RowKit Str
set_option linter.unusedVariables false

set_option maxRecDepth 100000 in
set_option maxHeartbeats 8000000 in
theorem Element_calls (s : ByteArray) (kind : Nat) (hkind : kind ≤ 2) (R : Bool) (h : Pe.element kind s.data.toList = R) (w : World) (hs : s.size ≤ 1000) :
    Calls Tryd.prog 26 #[.string s, .int .i64 kind] w fun e w' => e = .returned (.bool R) ∧ Bl w w' := by
  have HR : Hid (R = (!s.data.toList.isEmpty && ((s.data.toList.getLast? != some 46) && (!(kind == 0 && s.data.toList.head? == some 46) && (s.data.toList.all (Pe.charOk kind) && (!Pe.reserved (short s.data.toList) && (kind == 2 || !Pe.tilde s.data.toList))))))) := h.symm
  clear h
  by_cases h0 : s.size = 0
  · have e0 : ((s.size : Int) == 0) = true := beq_iff_eq.2 (by omega)
    obtain rfl : R = false := by
      rw [HR.out, show s.data.toList = [] from List.eq_nil_of_length_eq_zero (by rw [← Lib.size_eq]; exact h0)]; rfl
    clear HR h0
    go_enter Tryd.func26, Tryd.ntmps26
    go_wp2
    go_ret
    exact ⟨rfl, Bl.refl _⟩
  have hp : 0 < s.size := by omega
  have e0 : ((s.size : Int) == 0) = false := beq_eq_false_iff_ne.2 (by omega)
  have hne : s.data.toList.isEmpty = false := by rw [List.isEmpty_eq_false_iff]; intro e; rw [Lib.size_eq, e] at hp; simp at hp
  rw [hne, Bool.not_false, Bool.true_and] at HR
  obtain ⟨cl, hcl⟩ : ∃ cl : UInt8, s[s.size - 1]'(by omega) = cl := ⟨_, rfl⟩
  have H1 : Hid (s.data.toList.getLast? = some cl) := by show _ = _; rw [last_eq hp, hcl]
  obtain ⟨c0, hc0⟩ : ∃ c0 : UInt8, s[0]'hp = c0 := ⟨_, rfl⟩
  have H0 : Hid (s.data.toList.head? = some c0) := by show _ = _; rw [head_eq hp, hc0]
  rw [H1.out, H0.out] at HR
  have hsz : ((s.size : Int) - 1).toNat = s.size - 1 := by omega
  have hsz' : (0 : Int) ≤ (s.size : Int) - 1 := by omega
  by_cases hl : cl = 46
  · have e1 : ((cl.toNat : Int) == 46) = true := by rw [hl]; rfl
    obtain rfl : R = false := by rw [HR.out, hl]; rfl
    clear HR H0 H1 hl hne h0
    go_enter Tryd.func26, Tryd.ntmps26
    go_wp2
    go_ret
    exact ⟨rfl, Bl.refl _⟩
  have e1 : ((cl.toNat : Int) == 46) = false := ne_nat hl
  have HR2 : Hid (R = (!(kind == 0 && some c0 == some 46) && (s.data.toList.all (Pe.charOk kind) && (!Pe.reserved (short s.data.toList) && (kind == 2 || !Pe.tilde s.data.toList))))) := by
    show _ = _; rw [HR.out, show (some cl != some (46 : UInt8)) = true by rw [bne_iff_ne]; simpa using hl, Bool.true_and]
  by_cases hk : kind = 0 ∧ c0 = 46
  · obtain ⟨rfl, rfl⟩ := hk
    obtain rfl : R = false := by rw [HR2.out]; rfl
    clear HR HR2 H0 H1 hl hne h0
    go_enter Tryd.func26, Tryd.ntmps26
    go_wp2
    go_ret
    exact ⟨rfl, Bl.refl _⟩
  have ways : ((kind : Int) == 0) = false ∨ (((kind : Int) == 0) = true ∧ ((c0.toNat : Int) == 46) = false) := by
    by_cases h1 : kind = 0
    · right; exact ⟨by rw [h1]; rfl, ne_nat (d := 46) (fun h => hk ⟨h1, h⟩)⟩
    · left; exact beq_eq_false_iff_ne.2 (by omega)
  have HR3 : Hid (R = ((s.data.toList.drop 0).all (Pe.charOk kind) && (!Pe.reserved (short s.data.toList) && (kind == 2 || !Pe.tilde s.data.toList)))) := by
    show _ = _
    have : (kind == 0 && some c0 == some (46 : UInt8)) = false := by
      rw [Bool.and_eq_false_iff]
      by_cases h1 : kind = 0
      · right; rw [beq_eq_false_iff_ne]; intro h2; exact hk ⟨h1, Option.some.inj h2⟩
      · left; rw [beq_eq_false_iff_ne]; exact h1
    rw [HR2.out, this, Bool.not_false, Bool.true_and, List.drop_zero]
  clear HR HR2 H0 H1 hl hne h0 hk
  obtain ⟨S, hS⟩ : ∃ S, S = B (short s.data.toList) := ⟨_, rfl⟩
  obtain ⟨D, hD⟩ : ∃ D, D = B (s.data.toList.dropWhile (· != 46)).tail := ⟨_, rfl⟩
  obtain ⟨m, hm⟩ : ∃ m, (!(s.data.toList.dropWhile (· != 46)).isEmpty) = m := ⟨_, rfl⟩
  have CC : Hid (∀ w, Calls Tryd.prog 42 #[.string s, .int .u8 46] w fun e w' => e = .returned (.tuple #[.string S, .string D, .bool m]) ∧ Drew w w') := fun w =>
    Cut_tell (c := 46) w rfl (by omega) (by rw [hS, B_data]; rfl) (by rw [hD, B_data]) hm
  have hSs : S.size ≤ 1000 := by
    rw [hS, B_size]
    have := (List.takeWhile_sublist (· != 46) (l := s.data.toList)).length_le
    unfold short; rw [← Lib.size_eq] at this; omega
  obtain ⟨b1, hb1⟩ : ∃ b, Pe.reserved (short s.data.toList) = b := ⟨_, rfl⟩
  obtain ⟨b2, hb2⟩ : ∃ b, Pe.tilde s.data.toList = b := ⟨_, rfl⟩
  have CR := Lib.hid fun w => reserved_calls S b1 (by rw [hS, B_data]; exact hb1) w hSs
  have CT := Lib.hid fun w => Tilde_calls s b2 hb2 w (by omega)
  rw [hb1, hb2] at HR3
  have kk : ((kind : Int) == 2) = (kind == 2) := by rw [Bool.eq_iff_iff, beq_iff_eq, beq_iff_eq]; omega
  have KK := Lib.hid kk
  clear hS hD hm hb1 hb2 hSs kk
  have H8 : Hid (∀ (k : Nat) (hlt : k < s.size) (d : UInt8), s[k]'hlt = d → s.data.toList.drop k = d :: s.data.toList.drop (k + 1)) := fun k hlt d hd => by
    have hl : k < s.data.toList.length := by rw [← Lib.size_eq]; exact hlt
    have hdd : s.data.toList[k] = d := Option.some.inj ((List.getElem?_eq_getElem hl).symm.trans (byte_at' s k hlt hd))
    rw [List.drop_eq_getElem_cons hl, hdd]
  have H9 : Hid (∀ k, ¬ k < s.size → s.data.toList.drop k = []) := fun k hk => List.drop_eq_nil_of_le (by rw [← Lib.size_eq]; omega)
  go_enter Tryd.func26, Tryd.ntmps26
  go_upto_region 1 with fail
  go_cut [28] (fun s28 wx => s28 = .bool false ∧ w = wx)
  case first =>
    rcases ways with e2 | ⟨e2, e3⟩
    all_goals
      go_wp2
      go_meet
      exact ⟨rfl, rfl⟩
  case rest =>
    obtain ⟨rfl, rfl⟩ := hcut
    clear ways
    go_wp2
    go_loopg [31] (s.size + 1) (fun g v31 wr => ∃ k : Nat, v31 = .int .i64 k ∧ s.size < k + g ∧ k ≤ s.size ∧ Bl w wr ∧ Hid (R = ((s.data.toList.drop k).all (Pe.charOk kind) && (!b1 && (kind == 2 || !b2)))))
    case atStart => exact ⟨0, rfl, by omega, by omega, Bl.refl _, HR3⟩
    case round =>
      clear HR3 e0 e1 hc0 hcl
      obtain ⟨k, rfl, hg, hk, hbl, HK⟩ := hrel
      have HB := Lib.hid hbl
      clear hbl
      by_cases hlt : k < s.size
      · obtain ⟨d, hd⟩ : ∃ d : UInt8, s[k]'hlt = d := ⟨_, rfl⟩
        have hd256 := d.toNat_lt
        have HK2 : Hid (R = (Pe.charOk kind d && ((s.data.toList.drop (k + 1)).all (Pe.charOk kind) && (!b1 && (kind == 2 || !b2))))) := by
          show _ = _; rw [HK.out, H8.out k hlt d hd, List.all_cons, Bool.and_assoc]
        obtain ⟨a, ha⟩ : ∃ a, alnum d.toNat = a := ⟨_, rfl⟩
        have CLt := Lib.hid fun w => letter_calls d a ha w
        obtain ⟨c1, hc1⟩ : ∃ c, Pe.s1.contains d = c := ⟨_, rfl⟩
        obtain ⟨c2, hc2⟩ : ∃ c, Pe.s2.contains d = c := ⟨_, rfl⟩
        have CI1 : Hid (∀ w, Calls Tryd.prog 33 #[.int .u8 d.toNat, .string ⟨#[45, 46, 95, 126]⟩] w fun e w' => e = .returned (.bool c1) ∧ Drew w w') := fun w =>
          in_calls d _ rfl ⟨#[45, 46, 95, 126]⟩ c1 hc1 w (by decide)
        have CI2 : Hid (∀ w, Calls Tryd.prog 33 #[.int .u8 d.toNat, .string ⟨#[33, 35, 36, 37, 38, 40, 41, 43, 44, 61, 64, 91, 93, 94, 123, 125, 32]⟩] w fun e w' => e = .returned (.bool c2) ∧ Drew w w') := fun w =>
          in_calls d _ rfl ⟨#[33, 35, 36, 37, 38, 40, 41, 43, 44, 61, 64, 91, 93, 94, 123, 125, 32]⟩ c2 hc2 w (by decide)
        have hch : Pe.charOk kind d = (a || (c1 || (decide (2 ≤ kind) && c2))) := by unfold Pe.charOk; rw [ha, hc1, hc2]
        rw [hch] at HK2
        clear ha hc1 hc2 hch HK
        cases a with
        | true =>
          have HN : Hid (R = ((s.data.toList.drop (k + 1)).all (Pe.charOk kind) && (!b1 && (kind == 2 || !b2)))) := HK2.out
          clear HK2 CI1 CI2
          go_wp2_with fail
          refine (CLt.out _).mono ?_
          rintro e w' ⟨rfl, rfl⟩
          go_wp2
          go_roundg (gk - 1)
          case measure => omega
          case rel => exact ⟨k + 1, by go_num, by omega, by omega, HB.out, HN⟩
        | false =>
          cases c1 with
          | true =>
            have HN : Hid (R = ((s.data.toList.drop (k + 1)).all (Pe.charOk kind) && (!b1 && (kind == 2 || !b2)))) := HK2.out
            clear HK2 CI2
            go_wp2_with fail
            refine (CLt.out _).mono ?_
            rintro e w' ⟨rfl, rfl⟩
            go_wp2_with fail
            refine (CI1.out _).mono ?_
            rintro e w2 ⟨rfl, d2⟩
            have HB2 := Lib.hid (HB.out.dr d2)
            clear d2
            go_wp2
            go_roundg (gk - 1)
            case measure => omega
            case rel => exact ⟨k + 1, by go_num, by omega, by omega, HB2.out, HN⟩
          | false =>
            by_cases hk2 : kind < 2
            · obtain rfl : R = false := by rw [HK2.out, decide_eq_false (by omega)]; rfl
              have hk2' : (kind : Int) < 2 := by omega
              clear HK2 CI2 hg
              go_wp2_with fail
              refine (CLt.out _).mono ?_
              rintro e w' ⟨rfl, rfl⟩
              go_wp2_with fail
              refine (CI1.out _).mono ?_
              rintro e w2 ⟨rfl, d2⟩
              have HB2 := Lib.hid (HB.out.dr d2)
              clear d2
              go_wp2
              go_ret
              exact ⟨rfl, HB2.out⟩
            · have hk2' : ¬ (kind : Int) < 2 := by omega
              have HK3 : Hid (R = (c2 && ((s.data.toList.drop (k + 1)).all (Pe.charOk kind) && (!b1 && (kind == 2 || !b2))))) := by
                show _ = _; rw [HK2.out, decide_eq_true (by omega)]; rfl
              clear HK2
              cases c2 with
              | true =>
                have HN : Hid (R = ((s.data.toList.drop (k + 1)).all (Pe.charOk kind) && (!b1 && (kind == 2 || !b2)))) := HK3.out
                clear HK3
                go_wp2_with fail
                refine (CLt.out _).mono ?_
                rintro e w' ⟨rfl, rfl⟩
                go_wp2_with fail
                refine (CI1.out _).mono ?_
                rintro e w2 ⟨rfl, d2⟩
                go_wp2_with fail
                refine (CI2.out _).mono ?_
                rintro e w3 ⟨rfl, d3⟩
                have HB2 := Lib.hid ((HB.out.dr d2).dr d3)
                clear d2 d3
                go_wp2
                go_roundg (gk - 1)
                case measure => omega
                case rel => exact ⟨k + 1, by go_num, by omega, by omega, HB2.out, HN⟩
              | false =>
                obtain rfl : R = false := HK3.out
                clear HK3 hg
                go_wp2_with fail
                refine (CLt.out _).mono ?_
                rintro e w' ⟨rfl, rfl⟩
                go_wp2_with fail
                refine (CI1.out _).mono ?_
                rintro e w2 ⟨rfl, d2⟩
                go_wp2_with fail
                refine (CI2.out _).mono ?_
                rintro e w3 ⟨rfl, d3⟩
                have HB2 := Lib.hid ((HB.out.dr d2).dr d3)
                clear d2 d3
                go_wp2
                go_ret
                exact ⟨rfl, HB2.out⟩
      · have HRR : Hid (R = (!b1 && (kind == 2 || !b2))) := by show _ = _; rw [HK.out, H9.out k hlt]; rfl
        clear HK hg
        cases b1 with
        | true =>
          obtain rfl : R = false := HRR.out
          clear HRR
          go_wp2_with fail
          refine (CC.out _).mono ?_
          rintro e w2 ⟨rfl, d2⟩
          go_wp2_with fail
          refine (CR.out _).mono ?_
          rintro e w3 ⟨rfl, g3⟩
          have HB2 := Lib.hid ((HB.out.dr d2).trans g3)
          clear d2 g3
          go_wp2
          go_ret
          exact ⟨rfl, HB2.out⟩
        | false =>
          by_cases hk2 : kind = 2
          · obtain rfl : R = true := by rw [HRR.out, hk2]; rfl
            have hk2' : ((kind : Int) == 2) = true := by rw [KK.out, hk2]; rfl
            clear HRR hk2
            go_wp2_with fail
            refine (CC.out _).mono ?_
            rintro e w2 ⟨rfl, d2⟩
            go_wp2_with fail
            refine (CR.out _).mono ?_
            rintro e w3 ⟨rfl, g3⟩
            have HB2 := Lib.hid ((HB.out.dr d2).trans g3)
            clear d2 g3
            go_wp2
            go_ret
            exact ⟨rfl, HB2.out⟩
          · have hk2' : ((kind : Int) == 2) = false := by rw [KK.out]; exact beq_eq_false_iff_ne.2 hk2
            have HR4 : Hid (R = !b2) := by show _ = _; rw [HRR.out, beq_eq_false_iff_ne.2 hk2]; rfl
            clear HRR hk2
            cases b2
            all_goals
              have hrr := HR4.out
              subst hrr
              clear HR4
              go_wp2_with fail
              refine (CC.out _).mono ?_
              rintro e w2 ⟨rfl, d2⟩
              go_wp2_with fail
              refine (CR.out _).mono ?_
              rintro e w3 ⟨rfl, g3⟩
              have HB2 := Lib.hid ((HB.out.dr d2).trans g3)
              clear d2 g3
              go_wp2_with fail
              refine (CT.out _).mono ?_
              rintro e w' ⟨rfl, rfl⟩
              go_wp2
              go_ret
              exact ⟨rfl, HB2.out⟩

theorem split_part_len : ∀ (l : List UInt8), ∀ x ∈ Ver.split 47 l, x.length ≤ l.length
  | [], x, hx => by
    have : x = [] := by simpa [Ver.split] using hx
    rw [this]; exact Nat.le_refl _
  | c :: l, x, hx => by
    rw [Ver.split] at hx
    by_cases hc : c = 47
    · rw [if_pos hc] at hx
      rcases List.mem_cons.1 hx with rfl | hx
      · exact Nat.zero_le _
      · exact Nat.le_succ_of_le (split_part_len l x hx)
    · rw [if_neg hc] at hx
      cases hs : Ver.split 47 l with
      | nil => exact absurd hs (Ver.split_ne 47 l)
      | cons a r =>
        rw [hs] at hx
        rcases List.mem_cons.1 hx with rfl | hx
        · have := split_part_len l a (by rw [hs]; exact List.mem_cons_self)
          simp; exact this
        · exact Nat.le_succ_of_le (split_part_len l x (by rw [hs]; exact List.mem_cons_of_mem _ hx))

theorem split_count : ∀ l : List UInt8, (Ver.split 47 l).length ≤ l.length + 1
  | [] => by decide
  | c :: l => by
    have ih := split_count l
    rw [Ver.split]
    split
    · simp; exact ih
    · cases hs : Ver.split 47 l with
      | nil => exact absurd hs (Ver.split_ne 47 l)
      | cons a r => rw [hs] at ih; simp at ih ⊢; omega

set_option maxRecDepth 100000 in
set_option maxHeartbeats 8000000 in
theorem Import_calls (s : ByteArray) (kind : Nat) (hkind : kind ≤ 2) (R : Bool) (h : (Ver.split 47 s.data.toList).all (Pe.element kind) = R) (w : World) (hs : s.size ≤ 1000) :
    Calls Tryd.prog 21 #[.string s, .int .i64 kind] w fun e w' => e = .returned (.bool R) ∧ Bl w w' := by
  have CEl := Lib.hid fun w => Elements_calls s w hs
  have HP : Hid (∀ x ∈ Ver.split 47 s.data.toList, x.length ≤ 1000) := fun x hx => by
    have := split_part_len _ x hx
    rw [← Lib.size_eq] at this; omega
  have hLl := split_count s.data.toList
  rw [← Lib.size_eq] at hLl
  generalize Ver.split 47 s.data.toList = L at *
  have H0 : Hid (R = (L.drop 0).all (Pe.element kind)) := h.symm
  clear h
  go_enter Tryd.func21, Tryd.ntmps21
  go_wp2_with fail
  refine (CEl.out _).mono ?_
  rintro e w1 ⟨⟨v, rfl, hv⟩, hb1⟩
  obtain ⟨b, cap, rfl, hbl, hcap, hcell⟩ := hv
  have HC : Hid (b < w1.heap.size ∧ ∀ i l, L[i]? = some l → w1.cell? ⟨b, i, none⟩ = some (.string (B l))) := ⟨hbl, hcell⟩
  have HB1 := Lib.hid hb1
  clear hbl hcell hb1 CEl
  go_wp2
  go_loopg [10] (L.length + 1) (fun g v10 wr => ∃ k : Nat, v10 = .int .i64 k ∧ L.length < k + g ∧ k ≤ L.length ∧ Bl w1 wr ∧ Hid (R = (L.drop k).all (Pe.element kind)))
  case atStart => exact ⟨0, rfl, by omega, by omega, Bl.refl _, H0⟩
  case round =>
    clear H0
    obtain ⟨k, rfl, hg, hk, hbl, HK⟩ := hrel
    have HB := Lib.hid hbl
    clear hbl
    by_cases hlt : k < L.length
    · obtain ⟨x, hx⟩ : ∃ x, L[k]? = some x := ⟨_, List.getElem?_eq_getElem hlt⟩
      have hcell : wr.cell? ⟨b, k, none⟩ = some (.string (B x)) := (HB.out.cell HC.out.1).trans (HC.out.2 k x hx)
      obtain ⟨f, hf⟩ : ∃ f, Pe.element kind x = f := ⟨_, rfl⟩
      have hxl := HP.out x (List.mem_of_getElem? hx)
      have CE := Lib.hid fun w => Element_calls (B x) kind hkind f (by rw [B_data]; exact hf) w (by rw [B_size]; exact hxl)
      have HK2 : Hid (R = (f && (L.drop (k + 1)).all (Pe.element kind))) := by
        show _ = _
        obtain ⟨_, hx'⟩ := List.getElem?_eq_some_iff.1 hx
        rw [HK.out, List.drop_eq_getElem_cons hlt, hx', List.all_cons, hf]
      have hlt' : (k : Int) < (L.length : Int) := by omega
      have hg2 : 1 ≤ gk := by omega
      generalize B x = X at *
      clear HK hx hf hxl
      cases f with
      | true =>
        have HN : Hid (R = (L.drop (k + 1)).all (Pe.element kind)) := HK2.out
        clear HK2
        go_wp2_with fail
        refine (CE.out _).mono ?_
        rintro e w2 ⟨rfl, g2⟩
        have HB2 := Lib.hid (HB.out.trans g2)
        clear g2 hcell
        go_wp2
        go_roundg (gk - 1)
        case measure => omega
        case rel => exact ⟨k + 1, by go_num, by omega, by omega, HB2.out, HN⟩
      | false =>
        obtain rfl : R = false := HK2.out
        clear HK2 hg
        go_wp2_with fail
        refine (CE.out _).mono ?_
        rintro e w2 ⟨rfl, g2⟩
        have HB2 := Lib.hid (HB1.out.trans (HB.out.trans g2))
        clear g2 hcell
        go_wp2
        go_ret
        exact ⟨rfl, HB2.out⟩
    · obtain rfl : R = true := by rw [HK.out, List.drop_eq_nil_of_le (by omega)]; rfl
      have hlt' : ¬ (k : Int) < (L.length : Int) := by omega
      have HB2 := Lib.hid (HB1.out.trans HB.out)
      clear HK hg
      go_wp2
      go_ret
      exact ⟨rfl, HB2.out⟩
end Go.Proofs.YtndimgajkjkgfaaDoor
