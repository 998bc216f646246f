/- The walk of package module's checkElem. -/
import Derived.Test.YtppnjkfeefmohaaDoorMdC
import Derived.Deep.DeepCutAuto
namespace Go.Proofs.YtppnjkfeefmohaaDoor
open Go.RowKit Str
set_option linter.unusedVariables false

/-- the arguments' kind, as the code asks for it -/
theorem kind_rune (kind : Nat) (n : Nat) : runeOk 0 n = modOk n ∧ runeOk 1 n = (modOk n || n == 43) ∧ runeOk 2 n = fileOk n := ⟨rfl, rfl, rfl⟩

theorem ext_front (s : ByteArray) (j : Nat) : (s.extract 0 j).data.toList = s.data.toList.take j := by
  rw [Lib.extract_data]; simp

/-- the part ahead of the first point, as the code cuts it -/
theorem short_cut (s : ByteArray) : (idxV [46] s.data.toList = -1 ∧ short s.data.toList = s.data.toList) ∨
    (∃ j : Nat, idxV [46] s.data.toList = (j : Int) ∧ j ≤ s.size ∧ short s.data.toList = (s.extract 0 j).data.toList) := by
  unfold idxV
  rw [idx_one]
  by_cases h : (46 : UInt8) ∈ s.data.toList
  · right
    rw [if_pos h]
    have hl := (List.takeWhile_sublist (· != 46) (l := s.data.toList)).length_le
    refine ⟨_, rfl, by rw [Lib.size_eq]; exact hl, ?_⟩
    rw [ext_front]
    unfold short
    exact List.prefix_iff_eq_take.1 (List.takeWhile_prefix _)
  · left
    rw [if_neg h]
    refine ⟨rfl, ?_⟩
    unfold short
    have h1 := List.takeWhile_append_dropWhile (p := (· != 46)) (l := s.data.toList)
    have h2 : s.data.toList.dropWhile (· != 46) = [] := by
      cases hd : s.data.toList.dropWhile (· != 46) with
      | nil => rfl
      | cons c t =>
        have hm : c ∈ s.data.toList := (List.dropWhile_sublist (· != 46) (l := s.data.toList)).subset (by rw [hd]; exact List.mem_cons_self)
        have := List.head?_dropWhile_not (· != 46) s.data.toList
        rw [hd] at this
        simp at this
        subst this; exact absurd hm h
    rw [h2, List.append_nil] at h1
    exact h1

theorem head_eq {s : ByteArray} (h : 0 < s.size) : s.data.toList.head? = some (s[0]'h) := by
  have := byte_at s 0 h
  rw [← this]; cases s.data.toList <;> rfl
theorem last_eq {s : ByteArray} (h : 0 < s.size) : s.data.toList.getLast? = some (s[s.size - 1]'(by omega)) := by
  rw [List.getLast?_eq_getElem?, ← Lib.size_eq]
  exact byte_at s _ (by omega)

theorem elem_split (kind : Nat) (l : List UInt8) : elemOk kind l = (!l.isEmpty && ((l.count 46 != l.length) && (!(l.head? == some 46 && kind == 0) && ((l.getLast? != some 46) && (l.all (fun c => runeOk kind c.toNat) && (!badName (short l) && (kind == 2 || !tildeEnd (short l)))))))) := by
  unfold elemOk; simp only [Bool.and_assoc]

set_option maxRecDepth 100000 in
set_option maxHeartbeats 8000000 in
theorem checkElem_calls (s : ByteArray) (kind : Nat) (hkind : kind ≤ 2) (ha : Asc s.data.toList) (w : World) (hb : Bad w) (hs : s.size ≤ 140737488351232) :
    Calls Tryd.prog 67 #[.string s, .int .i64 kind] w fun e w' => (∃ x, e = .returned x ∧ Err (elemOk kind s.data.toList) x) ∧ Gr w w' := by
  obtain ⟨R, hR⟩ : ∃ R, elemOk kind s.data.toList = R := ⟨_, rfl⟩
  have HR : Hid (R = _) := hR.symm.trans (elem_split kind s.data.toList)
  have HA := Lib.hid ha
  have HB := Lib.hid hb
  rw [hR]
  clear hR ha hb
  by_cases h0 : s.size = 0
  · obtain rfl := size_zero h0
    have h2 := toList_nil
    obtain rfl : R = false := by rw [HR.out, B_data]; rfl
    clear HR
    go_enter Tryd.func67, Tryd.ntmps67
    go_wp2_with fail
    refine (errorsNew_calls _ _).mono ?_
    rintro e w1 ⟨⟨a, rfl⟩, g1⟩
    go_wp2
    go_ret
    exact ⟨⟨_, rfl, _, _, rfl⟩, g1⟩
  have hp : 0 < s.size := by omega
  have h2 := toList_ne hp
  have hne : s.data.toList.isEmpty = false := by rw [List.isEmpty_eq_false_iff]; intro e; rw [Lib.size_eq, e] at hp; simp at hp
  rw [hne] at HR
  have HL := Lib.hid (Lib.size_eq s)
  have CC : Hid (∀ w, Calls Tryd.prog 86 #[.string s, .string ⟨#[46]⟩] w fun e w' => e = .returned (.int .i64 (s.data.toList.count 46 : Nat)) ∧ w = w') := fun w => zzCount_calls s 46 w hs
  by_cases hc : s.data.toList.count 46 = s.size
  · have e1 : (((s.data.toList.count 46 : Nat) : Int) == (s.size : Int)) = true := eqb_t hc
    obtain rfl : R = false := by rw [HR.out, ← HL.out, hc]; simp
    clear HR hne
    generalize s.data.toList.count 46 = n at *
    go_enter Tryd.func67, Tryd.ntmps67
    go_wp2_with fail
    refine (CC.out _).mono ?_
    rintro e w1 ⟨rfl, rfl⟩
    go_wp2_with fail
    refine (errorsNew_calls _ _).mono ?_
    rintro e w1 ⟨⟨a, rfl⟩, g1⟩
    go_wp2
    go_ret
    exact ⟨⟨_, rfl, _, _, rfl⟩, g1⟩
  have e1 : (((s.data.toList.count 46 : Nat) : Int) == (s.size : Int)) = false := eqb_f hc
  have HR2 : Hid (R = (!(s.data.toList.head? == some 46 && kind == 0) && ((s.data.toList.getLast? != some 46) && (s.data.toList.all (fun c => runeOk kind c.toNat) && (!badName (short s.data.toList) && (kind == 2 || !tildeEnd (short s.data.toList))))))) := by
    show _ = _
    rw [HR.out]
    have : (s.data.toList.count 46 != s.data.toList.length) = true := bne_iff_ne.2 (by rw [← HL.out]; exact hc)
    rw [this]; simp only [Bool.not_false, Bool.true_and]
  clear HR hc hne
  generalize s.data.toList.count 46 = n at *
  have hk0 : ((kind : Int) == 0) = (kind == 0) := by
    rw [Bool.eq_iff_iff, beq_iff_eq, beq_iff_eq]; omega
  obtain ⟨c0, hc0⟩ : ∃ c0 : UInt8, s[0]'hp = c0 := ⟨_, rfl⟩
  have H0 : Hid (s.data.toList.head? = some c0) := by show _ = _; rw [head_eq hp, hc0]
  rw [H0.out] at HR2
  by_cases hh : c0 = 46 ∧ kind = 0
  · obtain ⟨rfl, rfl⟩ := hh
    obtain rfl : R = false := by rw [HR2.out]; rfl
    clear HR2 H0
    go_enter Tryd.func67, Tryd.ntmps67
    go_wp2_with fail
    refine (CC.out _).mono ?_
    rintro e w1 ⟨rfl, rfl⟩
    go_wp2_with fail
    refine (errorsNew_calls _ _).mono ?_
    rintro e w1 ⟨⟨a, rfl⟩, g1⟩
    go_wp2
    go_ret
    exact ⟨⟨_, rfl, _, _, rfl⟩, g1⟩
  have HR3 : Hid (R = ((s.data.toList.getLast? != some 46) && (s.data.toList.all (fun c => runeOk kind c.toNat) && (!badName (short s.data.toList) && (kind == 2 || !tildeEnd (short s.data.toList)))))) := by
    show _ = _
    rw [HR2.out]
    have : ((some c0 == some (46 : UInt8)) && kind == 0) = false := by
      rw [Bool.and_eq_false_iff]
      by_cases h1 : c0 = 46
      · right; rw [beq_eq_false_iff_ne]; exact fun h => hh ⟨h1, h⟩
      · left; rw [beq_eq_false_iff_ne]; simpa using h1
    rw [this]; simp only [Bool.not_false, Bool.true_and]
  have ways : ((c0.toNat : Int) == 46) = false ∨ (((c0.toNat : Int) == 46) = true ∧ ((kind : Int) == 0) = false) := by
    by_cases h1 : c0 = 46
    · right
      refine ⟨by rw [h1]; rfl, ?_⟩
      rw [beq_eq_false_iff_ne]; exact fun h => hh ⟨h1, by omega⟩
    · left; exact ne_nat h1
  clear hh HR2 hk0 H0
  obtain ⟨cl, hcl⟩ : ∃ cl : UInt8, s[s.size - 1]'(by omega) = cl := ⟨_, rfl⟩
  have H1 : Hid (s.data.toList.getLast? = some cl) := by show _ = _; rw [last_eq hp, hcl]
  rw [H1.out] at HR3
  have hsz : ((s.size : Int) - 1).toNat = s.size - 1 := by omega
  have hsz' : (0 : Int) ≤ (s.size : Int) - 1 := by omega
  by_cases hl : cl = 46
  · have e3 : ((cl.toNat : Int) == 46) = true := by rw [hl]; rfl
    obtain rfl : R = false := by rw [HR3.out, hl]; rfl
    clear HR3 H1
    rcases ways with e2 | ⟨e2, e2'⟩
    all_goals
      go_enter Tryd.func67, Tryd.ntmps67
      go_wp2_with fail
      refine (CC.out _).mono ?_
      rintro e w1 ⟨rfl, rfl⟩
      go_wp2_with fail
      refine (errorsNew_calls _ _).mono ?_
      rintro e w1 ⟨⟨a, rfl⟩, g1⟩
      go_wp2
      go_ret
      exact ⟨⟨_, rfl, _, _, rfl⟩, g1⟩
  have e3 : ((cl.toNat : Int) == 46) = false := ne_nat hl
  have HR4 : Hid (R = (s.data.toList.all (fun c => runeOk kind c.toNat) && (!badName (short s.data.toList) && (kind == 2 || !tildeEnd (short s.data.toList))))) := by
    show _ = _
    rw [HR3.out]
    have : (some cl != some (46 : UInt8)) = true := by rw [bne_iff_ne]; simpa using hl
    rw [this, Bool.true_and]
  clear HR3 H1 hl
  obtain ⟨rest, hrest⟩ : ∃ rest, (!badName (short s.data.toList) && (kind == 2 || !tildeEnd (short s.data.toList))) = rest := ⟨_, rfl⟩
  have HREST := Lib.hid hrest
  have HR5 : Hid (R = ((s.data.toList.drop 0).all (fun c => runeOk kind c.toNat) && rest)) := by show _ = _; rw [HR4.out, hrest]; rfl
  clear hrest HR4
  go_enter Tryd.func67, Tryd.ntmps67
  go_wp2_with fail
  refine (CC.out _).mono ?_
  rintro e w1 ⟨rfl, rfl⟩
  go_upto_region 5 with fail
  go_cut [32] (fun s32 wx => s32 = .bool false ∧ w = wx)
  case first =>
    rcases ways with e2 | ⟨e2, e2'⟩
    all_goals
      go_wp2
      go_meet
      exact ⟨rfl, rfl⟩
  case rest =>
    obtain ⟨rfl, rfl⟩ := hcut
    clear ways
    go_wp2
    go_loopg [6] (s.size + 1) (fun g v6 wr => ∃ k : Nat, s.size < k + g ∧ k ≤ s.size ∧ IterAt wr w.heap.size s k ∧ Gr w wr ∧ Hid (R = ((s.data.toList.drop k).all (fun c => runeOk kind c.toNat) && rest)))
    case atStart => exact ⟨0, by omega, by omega, IterAt.start w s, (Gr.refl w).iter s, HR5⟩
    case round =>
      clear HR5 e1 e3 h2 CC
      obtain ⟨k, hg, hk, hi, hgr, HK⟩ := hrel
      have HI := Lib.hid hi
      have HG := Lib.hid hgr
      by_cases hlt : k < s.size
      · obtain ⟨d, hd⟩ : ∃ d : UInt8, s[k]'hlt = d := ⟨_, rfl⟩
        have hd128 := HA.out.at k hlt hd
        have hnx : ∀ ty, (Instr.next (.pointer (some ⟨w.heap.size, 0, none⟩)) true ty).run Tryd.prog wr = .ok (.tuple #[.bool true, .int .i64 k, .int .i32 d.toNat]) (setIter wr w.heap.size s (k + 1)) := fun ty => by
          have := next_ascii (P := Tryd.prog) hi hlt (by rw [hd]; exact hd128) ty
          rw [hd] at this; exact this
        have hld : k < s.data.toList.length := by rw [← Lib.size_eq]; exact hlt
        have hdd : s.data.toList[k] = d := Option.some.inj ((List.getElem?_eq_getElem hld).symm.trans (byte_at' s k hlt hd))
        have T := List.drop_eq_getElem_cons hld
        rw [hdd] at T
        have HT : Hid (R = (runeOk kind d.toNat && (s.data.toList.drop (k + 1)).all (fun c => runeOk kind c.toNat) && rest)) := by
          show _ = _; rw [HK.out, T, List.all_cons]
        have HI2 := Lib.hid (HI.out.set (pos' := k + 1))
        have HG2 := Lib.hid (HG.out.setIter (b := w.heap.size) (s := s) (pos := k + 1) (Nat.le_refl _))
        clear HK T hdd hld hi hgr HI HG hd
        generalize setIter wr w.heap.size s (k + 1) = W at *
        have kinds : kind = 0 ∨ kind = 1 ∨ kind = 2 := by omega
        cases hro : runeOk kind d.toNat with
        | true =>
          have HO := Lib.hid hro
          have HN : Hid (R = ((s.data.toList.drop (k + 1)).all (fun c => runeOk kind c.toNat) && rest)) := by show _ = _; rw [HT.out, hro, Bool.true_and]
          clear HT hro
          rcases kinds with rfl | rfl | rfl
          · go_wp2_with (first | (go_at_call 87; refine (modPathOK_calls _ _ HO.out hd128 _).mono ?_; rintro e w' ⟨rfl, rfl⟩))
            go_roundg (gk - 1)
            case measure => omega
            case rel => exact ⟨k + 1, by omega, by omega, HI2.out, HG2.out, HN⟩
          · go_wp2_with (first | (go_at_call 88; refine (importPathOK_calls _ _ HO.out hd128 _).mono ?_; rintro e w' ⟨rfl, rfl⟩))
            go_roundg (gk - 1)
            case measure => omega
            case rel => exact ⟨k + 1, by omega, by omega, HI2.out, HG2.out, HN⟩
          · go_wp2_with fail
            refine (fileNameOK_calls _ _ HO.out hd128 _).mono ?_
            rintro e w' ⟨rfl, g3⟩
            go_wp2
            go_roundg (gk - 1)
            case measure => omega
            case rel => exact ⟨k + 1, by omega, by omega, HI2.out.keep g3, HG2.out.trans g3, HN⟩
        | false =>
          have HO := Lib.hid hro
          obtain rfl : R = false := by rw [HT.out, hro]; rfl
          clear HT hro hg
          rcases kinds with rfl | rfl | rfl
          · go_wp2_with (first | (go_at_call 87; refine (modPathOK_calls _ _ HO.out hd128 _).mono ?_; rintro e w' ⟨rfl, rfl⟩))
            refine (errorsNew_calls _ _).mono ?_
            rintro e w1 ⟨⟨a, rfl⟩, g1⟩
            go_wp2
            go_ret
            exact ⟨⟨_, rfl, _, _, rfl⟩, HG2.out.trans g1⟩
          · go_wp2_with (first | (go_at_call 88; refine (importPathOK_calls _ _ HO.out hd128 _).mono ?_; rintro e w' ⟨rfl, rfl⟩))
            refine (errorsNew_calls _ _).mono ?_
            rintro e w1 ⟨⟨a, rfl⟩, g1⟩
            go_wp2
            go_ret
            exact ⟨⟨_, rfl, _, _, rfl⟩, HG2.out.trans g1⟩
          · go_wp2_with fail
            refine (fileNameOK_calls _ _ HO.out hd128 _).mono ?_
            rintro e w' ⟨rfl, g3⟩
            go_wp2_with fail
            refine (errorsNew_calls _ _).mono ?_
            rintro e w1 ⟨⟨a, rfl⟩, g1⟩
            go_wp2
            go_ret
            exact ⟨⟨_, rfl, _, _, rfl⟩, (HG2.out.trans g3).trans g1⟩
      · have hnx : ∀ ty, (Instr.next (.pointer (some ⟨w.heap.size, 0, none⟩)) true ty).run Tryd.prog wr = .ok (.tuple #[.bool false]) wr := fun ty => next_end hi hlt ty
        have HRR : Hid (R = rest) := by
          show _ = _
          rw [HK.out, List.drop_eq_nil_of_le (by rw [← Lib.size_eq]; omega)]; rfl
        clear HK hi hgr
        have HLOAD := Lib.hid (HB.out.keep HG.out)
        have ZI : Hid (∀ w, Calls Tryd.prog 25 #[.string s, .string ⟨#[46]⟩] w fun e w' => e = .returned (.int .i64 (idxV [46] s.data.toList)) ∧ w = w') := fun w => zzIndex_calls s ⟨#[46]⟩ w hs (by decide) (by decide)
        have hsp : ∃ S : ByteArray, short s.data.toList = S.data.toList ∧ S.size ≤ s.size ∧ Asc S.data.toList ∧ ((idxV [46] s.data.toList = -1 ∧ S = s) ∨ ∃ j : Nat, idxV [46] s.data.toList = (j : Int) ∧ j ≤ s.size ∧ S = s.extract 0 j) := by
          rcases short_cut s with ⟨i1, i2⟩ | ⟨j, i1, i2, i3⟩
          · exact ⟨s, i2, Nat.le_refl _, HA.out, .inl ⟨i1, rfl⟩⟩
          · refine ⟨s.extract 0 j, i3, ?_, HA.out.cut 0 j, .inr ⟨j, i1, i2, rfl⟩⟩
            rw [Lib.size_eq, ext_front, List.length_take]; omega
        obtain ⟨S, hS, hSs, hSa, hcase⟩ := hsp
        have HSA := Lib.hid hSa
        have hSz : S.size ≤ 140737488351232 := by omega
        have HR6 : Hid (R = (!badName S.data.toList && (kind == 2 || !tildeEnd S.data.toList))) := by show _ = _; rw [HRR.out, ← HREST.out, hS]
        have LL : Hid (∀ w, Calls Tryd.prog 91 #[.string S, .string ⟨#[126]⟩] w fun e w' => e = .returned (.int .i64 (lastTo 126 S.data.toList S.size)) ∧ w = w') := fun w => zzLastIndex_calls S 126 w hSz
        clear hS hSa HRR HREST HI
        have HIX : Hid (∀ (W : World) (k : Nat) (hk : k < NAMES.length), (Instr.index 105 (.agg NV) (.int .i64 k)).run Tryd.prog W = .ok (.string (B (NAMES[k]))) W) := index_bad
        go_wp2_with fail
        refine (ZI.out _).mono ?_
        rintro e w' ⟨rfl, rfl⟩
        go_upto_if 67 with fail
        go_cut [8] (fun s8 wx => s8 = .string S ∧ wr = wx)
        case first =>
          rcases hcase with ⟨hidx, rfl⟩ | ⟨j, hidx, hj, rfl⟩
          all_goals
            go_wp2
            go_meet
            exact ⟨rfl, rfl⟩
        case rest =>
          obtain ⟨rfl, rfl⟩ := hcut
          clear hcase ZI
          go_upto_region 27 with fail
          go_cut [71, 72] (fun s71 s72 wx => s71 = .agg NV ∧ s72 = .int .i64 0 ∧ wr = wx)
          case first =>
            refine wp_region_lit ?_
            refine wpList_load_mid rfl _ _ rfl _ _ rfl _ (.array 22 9) HLOAD.out.2 (by kernel_rfl) rfl (by kernel_rfl) ?_
            simp only [Act.put, List.setIfInBounds_toArray, List.set_cons_zero, List.set_cons_succ]
            generalize hNV : (Value.agg (NAMES.map fun l => (.string (B l) : Value)).toArray) = NVV
            go_wp2
            go_meet
            exact ⟨hNV.symm.trans rfl, rfl, rfl⟩
          case rest =>
            obtain ⟨rfl, rfl, rfl⟩ := hcut
            go_wp2
            have CE : Hid (∀ (k : Nat) (hk : k < NAMES.length) (w : World), Calls Tryd.prog 90 #[.string (B NAMES[k]), .string S] w fun e w' => e = .returned (.bool (Lib.equalFold NAMES[k] S.data.toList)) ∧ w = w') := fun k hk w => by
              have h1 := names_asc _ (List.getElem_mem hk)
              have h2 := names_short _ (List.getElem_mem hk)
              have := strings_EqualFold (B NAMES[k]) S w (by rw [B_size]; omega) (by rw [B_data]; exact fun j b hb => h1 b (List.mem_of_getElem? hb)) (fun j b hb => HSA.out b (List.mem_of_getElem? hb))
              rw [B_data] at this
              exact this.mono fun e w' ⟨p, q⟩ => ⟨p, q.symm⟩
            obtain ⟨t, ht⟩ : ∃ t, (kind == 2 || !tildeEnd S.data.toList) = t := ⟨_, rfl⟩
            have HT := Lib.hid ht
            have HR7 : Hid (R = (!((NAMES.drop 0).any fun b => Lib.equalFold b S.data.toList) && t)) := by show _ = _; rw [HR6.out, ht]; rfl
            clear ht HR6
            go_loopg [11, 72] 23 (fun g v11 v72 wx => ∃ k : Nat, v72 = .int .i64 k ∧ 22 < k + g ∧ k ≤ 22 ∧ wr = wx ∧ Hid (R = (!((NAMES.drop k).any fun b => Lib.equalFold b S.data.toList) && t)))
            case atStart => exact ⟨0, rfl, by omega, by omega, rfl, HR7⟩
            case round =>
              clear HR7
              obtain ⟨k, rfl, hgk, hk22, rfl, HV⟩ := hrel
              by_cases hk : k < 22
              · have hkN : k < NAMES.length := hk
                have hix := HIX.out wr k hkN
                have CEk := Lib.hid (CE.out k hkN)
                have T := List.drop_eq_getElem_cons hkN
                have HV2 : Hid (R = (!(Lib.equalFold NAMES[k] S.data.toList || (NAMES.drop (k + 1)).any fun b => Lib.equalFold b S.data.toList) && t)) := by
                  show _ = _; rw [HV.out, T, List.any_cons]
                clear HV T CE
                generalize hnm : NAMES[k] = nm at *
                cases hq : Lib.equalFold nm S.data.toList with
                | true =>
                  rw [hq] at CEk
                  obtain rfl : R = false := by rw [HV2.out, hq]; rfl
                  clear HV2 hq hnm
                  go_wp2_with fail
                  refine (CEk.out _).mono ?_
                  rintro e w' ⟨rfl, rfl⟩
                  go_wp2_with fail
                  refine (errorsNew_calls _ _).mono ?_
                  rintro e w1 ⟨⟨a, rfl⟩, g1⟩
                  go_wp2
                  go_ret
                  exact ⟨⟨_, rfl, _, _, rfl⟩, HG.out.trans g1⟩
                | false =>
                  rw [hq] at CEk
                  have HN : Hid (R = (!((NAMES.drop (k + 1)).any fun b => Lib.equalFold b S.data.toList) && t)) := by show _ = _; rw [HV2.out, hq, Bool.false_or]
                  clear HV2 hq hnm
                  go_wp2_with fail
                  refine (CEk.out _).mono ?_
                  rintro e w' ⟨rfl, rfl⟩
                  go_wp2
                  go_roundg (gk - 1)
                  case measure => omega
                  case rel => exact ⟨k + 1, by go_num, by omega, by omega, rfl, HN⟩
              · have hRt : R = t := by
                  rw [HV.out, List.drop_eq_nil_of_le (by show 22 ≤ k; omega)]; rfl
                clear HV CE HIX
                subst hRt
                by_cases h2 : kind = 2
                · subst h2
                  obtain rfl : R = true := HT.out.symm.trans rfl
                  clear HT
                  go_wp2
                  go_ret
                  exact ⟨⟨_, rfl, rfl⟩, HG.out⟩
                have kb : ((kind : Int) == 2) = false := eqb_f (m := 2) h2
                have HR8 : Hid (R = !tildeEnd S.data.toList) := by
                  show _ = _; rw [← HT.out, beq_eq_false_iff_ne.2 h2, Bool.false_or]
                have TP := tilde_parts S.data.toList
                rw [← Lib.size_eq] at TP
                clear HT h2
                rcases TP with ⟨p1, p2⟩ | ⟨p1, q, p2, p3⟩ | ⟨q, p2, p3, p1⟩
                · obtain rfl : R = true := by rw [HR8.out, p1]; rfl
                  clear HR8 p1
                  generalize lastTo 126 S.data.toList S.size = z at *
                  go_wp2_with fail
                  refine (LL.out _).mono ?_
                  rintro e w' ⟨rfl, rfl⟩
                  go_wp2
                  go_ret
                  exact ⟨⟨_, rfl, rfl⟩, HG.out⟩
                · obtain rfl : R = true := by rw [HR8.out, p1]; rfl
                  rw [p2] at LL
                  clear HR8 p1 p2
                  go_wp2_with fail
                  refine (LL.out _).mono ?_
                  rintro e w' ⟨rfl, rfl⟩
                  go_wp2
                  go_ret
                  exact ⟨⟨_, rfl, rfl⟩, HG.out⟩
                · rw [p2] at LL
                  have hq1 : (q : Int) + 1 ≤ (S.size : Int) := by omega
                  have hq2 : ((q : Int) + 1).toNat = q + 1 := by omega
                  have hU : (S.extract (q + 1) S.size).data.toList = S.data.toList.drop (q + 1) := Lib.extract_to_end S (q + 1)
                  have HUA : Hid (Asc (S.extract (q + 1) S.size).data.toList) := HSA.out.cut _ _
                  have HR9 : Hid (R = !(((S.extract (q + 1) S.size).data.toList.drop 0).all fun c => decide (48 ≤ c.toNat ∧ c.toNat ≤ 57))) := by
                    show _ = _; rw [HR8.out, p1, hU]; rfl
                  clear HR8 p1 p2 hU
                  go_wp2_with fail
                  refine (LL.out _).mono ?_
                  rintro e w' ⟨rfl, rfl⟩
                  go_wp2
                  generalize S.extract (q + 1) S.size = U at *
                  go_loopg [14, 16] (U.size + 1) (fun g v14 v16 wx => ∃ k : Nat, v14 = .bool true ∧ U.size < k + g ∧ IterAt wx wr.heap.size U k ∧ Gr w wx ∧ Hid (R = !((U.data.toList.drop k).all fun c => decide (48 ≤ c.toNat ∧ c.toNat ≤ 57))))
                  case atStart => exact ⟨0, rfl, by omega, IterAt.start wr U, HG.out.iter U, HR9⟩
                  case round =>
                    clear HR9
                    obtain ⟨k2, rfl, hg2, hi2, hgr2, HK2⟩ := hrel
                    have hwr := HG.out.size
                    have HI3 := Lib.hid hi2
                    have HG3 := Lib.hid hgr2
                    have HWR := Lib.hid hwr
                    clear hwr
                    rename World => wx
                    by_cases hlt2 : k2 < U.size
                    · obtain ⟨d, hd⟩ : ∃ d : UInt8, U[k2]'hlt2 = d := ⟨_, rfl⟩
                      have hd128 := HUA.out.at k2 hlt2 hd
                      have hnx2 : ∀ ty, (Instr.next (.pointer (some ⟨wr.heap.size, 0, none⟩)) true ty).run Tryd.prog wx = .ok (.tuple #[.bool true, .int .i64 k2, .int .i32 d.toNat]) (setIter wx wr.heap.size U (k2 + 1)) := fun ty => by
                        have := next_ascii (P := Tryd.prog) hi2 hlt2 (by rw [hd]; exact hd128) ty
                        rw [hd] at this; exact this
                      have hld2 : k2 < U.data.toList.length := by rw [← Lib.size_eq]; exact hlt2
                      have hdd2 : U.data.toList[k2] = d := Option.some.inj ((List.getElem?_eq_getElem hld2).symm.trans (byte_at' U k2 hlt2 hd))
                      have T2 := List.drop_eq_getElem_cons hld2
                      rw [hdd2] at T2
                      have HI4 := Lib.hid (HI3.out.set (pos' := k2 + 1))
                      have HG4 := Lib.hid (HG3.out.setIter (b := wr.heap.size) (s := U) (pos := k2 + 1) HWR.out)
                      by_cases hdig : 48 ≤ d.toNat ∧ d.toNat ≤ 57
                      · have HN : Hid (R = !((U.data.toList.drop (k2 + 1)).all fun c => decide (48 ≤ c.toNat ∧ c.toNat ≤ 57))) := by
                          show _ = _; rw [HK2.out, T2, List.all_cons, decide_eq_true hdig, Bool.true_and]
                        obtain ⟨d1, d2⟩ := hdig
                        clear HK2 T2 hdd2 hld2 hd hi2 hgr2 HI3 HG3
                        generalize setIter wx wr.heap.size U (k2 + 1) = W at *
                        go_wp2
                        go_roundg (gk - 1)
                        case measure => omega
                        case rel => exact ⟨k2 + 1, rfl, by omega, HI4.out, HG4.out, HN⟩
                      · obtain rfl : R = true := by rw [HK2.out, T2, List.all_cons, decide_eq_false hdig]; rfl
                        clear HK2 T2 hdd2 hld2 hd hi2 hgr2 HI3 HG3 hg2
                        generalize setIter wx wr.heap.size U (k2 + 1) = W at *
                        rcases (by omega : d.toNat < 48 ∨ 57 < d.toNat) with hdig | hdig
                        all_goals
                          go_wp2
                          go_ret
                          exact ⟨⟨_, rfl, rfl⟩, HG4.out⟩
                    · have hnx2 : ∀ ty, (Instr.next (.pointer (some ⟨wr.heap.size, 0, none⟩)) true ty).run Tryd.prog wx = .ok (.tuple #[.bool false]) wx := fun ty => next_end hi2 hlt2 ty
                      obtain rfl : R = false := by rw [HK2.out, List.drop_eq_nil_of_le (by rw [← Lib.size_eq]; omega)]; rfl
                      clear HK2 hi2 hgr2 hg2 HI3
                      go_wp2_with fail
                      refine (errorsNew_calls _ _).mono ?_
                      rintro e w1 ⟨⟨a, rfl⟩, g1⟩
                      go_wp2
                      go_ret
                      exact ⟨⟨_, rfl, _, _, rfl⟩, HG3.out.trans g1⟩
end Go.Proofs.YtppnjkfeefmohaaDoor
