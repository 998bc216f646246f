/- The walk of the reference's Module. -/
import Derived.Test.YtndimgajkjkgfaaDoorSpK
namespace Go.Proofs.YtndimgajkjkgfaaDoor
open Go.RowKit Str
set_option linter.unusedVariables false

set_option maxRecDepth 100000 in
set_option maxHeartbeats 8000000 in
theorem spModule_calls (s : ByteArray) (R : Bool) (h : Pe.modS s.data.toList = R) (w : World) (hs : s.size ≤ 1000) :
    Calls Tryd.prog 15 #[.string s] w fun e w' => e = .returned (.bool R) ∧ Bl w w' := by
  obtain ⟨b0, hb0⟩ : ∃ b, (Ver.split 47 s.data.toList).all (Pe.element 0) = b := ⟨_, rfl⟩
  have CI := Lib.hid fun w => Import_calls s 0 (by omega) b0 hb0 w hs
  have CEl := Lib.hid fun w => Elements_calls s w hs
  have CS := Lib.hid fun w => spSplit_calls s w (by omega)
  obtain ⟨fp, hfp⟩ : ∃ fp, s.data.toList.takeWhile (· != 47) = fp := ⟨_, rfl⟩
  have hst := split_step s.data.toList
  rw [hfp] at hst
  have HR : Hid (R = (b0 && (fp.contains 46 && (fp.all (fun c => firstOk c.toNat) && (Pth.splitS s.data.toList).2.2)) && fp.head? != some 45)) := by
    show _ = _; rw [← h]; unfold Pe.modS; rw [hb0, hfp]
  have hfl : fp.length ≤ 1000 := by
    rw [← hfp]
    have := (List.takeWhile_sublist (· != 47) (l := s.data.toList)).length_le
    rw [← Lib.size_eq] at this; omega
  cases b0 with
  | false =>
    obtain rfl : R = false := HR.out
    clear HR CEl CS hst hfp hfl h hb0
    go_enter Tryd.func15, Tryd.ntmps15
    go_wp2_with fail
    refine (CI.out _).mono ?_
    rintro e w1 ⟨rfl, g1⟩
    go_wp2
    go_ret
    exact ⟨rfl, g1⟩
  | true =>
    have hne : fp ≠ [] := fun e => by
      rw [hst, e, List.all_cons, show Pe.element 0 [] = false from rfl] at hb0; cases hb0
    have hlen : 0 < (Ver.split 47 s.data.toList).length := by rw [hst]; simp
    have h00 : (Ver.split 47 s.data.toList)[0]? = some fp := by rw [hst]; rfl
    obtain ⟨P, hP⟩ : ∃ P, P = B fp := ⟨_, rfl⟩
    have hPl : P.data.toList = fp := by rw [hP, B_data]
    have hp0 : 0 < P.size := by rw [hP, B_size]; exact List.length_pos_iff.2 hne
    have hPs : P.size ≤ 1000 := by rw [hP, B_size]; exact hfl
    obtain ⟨c, hc⟩ : ∃ c, fp.contains 46 = c := ⟨_, rfl⟩
    have CN := Lib.hid fun w => in_calls 46 46 rfl P c (by rw [hPl]; exact hc) w (by omega)
    obtain ⟨⟨x1, x2, x3⟩, hx⟩ : ∃ x, Pth.splitS s.data.toList = x := ⟨_, rfl⟩
    obtain ⟨c0, hc0⟩ : ∃ c0 : UInt8, P[0]'hp0 = c0 := ⟨_, rfl⟩
    have hh : fp.head? = some c0 := by
      have := head_eq hp0
      rw [hPl, hc0] at this; exact this
    have HR1 : Hid (R = ((c && ((P.data.toList.drop 0).all (fun c => firstOk c.toNat) && x3)) && some c0 != some 45)) := by
      show _ = _; rw [HR.out, hc, hx, hh, hPl]; rfl
    rw [hx] at CS
    unfold splitVal at CS
    generalize Ver.split 47 s.data.toList = L at *
    have HCELL : Hid (∀ W v, Strs W v L → ∃ b cap, v = .slice (some ⟨b, 0, none⟩) L.length cap ∧ L.length ≤ cap ∧ W.cell? ⟨b, 0, none⟩ = some (.string P)) := fun W v hv => by
      obtain ⟨b, cap, h1, h2, h3, h4⟩ := hv
      exact ⟨b, cap, h1, h3, by rw [hP]; exact h4 0 fp h00⟩
    clear HR hst hfp hfl h hb0 hne h00 hP hPl hc hx hh
    go_enter Tryd.func15, Tryd.ntmps15
    go_wp2_with fail
    refine (CI.out _).mono ?_
    rintro e w1 ⟨rfl, g1⟩
    go_wp2_with fail
    refine (CEl.out _).mono ?_
    rintro e w2 ⟨⟨v, rfl, hv⟩, g2⟩
    obtain ⟨b, cap, rfl, hcap, hcell⟩ := HCELL.out w2 v hv
    have G2 := Lib.hid (g1.trans g2)
    clear g1 g2 hv HCELL CI CEl
    go_wp2_with fail
    refine (CN.out _).mono ?_
    rintro e w3 ⟨rfl, d3⟩
    have G3 := Lib.hid (G2.out.dr d3)
    clear d3 G2 CN hcell
    cases c with
    | false =>
      obtain rfl : R = false := HR1.out
      clear HR1
      go_wp2
      go_ret
      exact ⟨rfl, G3.out⟩
    | true =>
      have HR2 : Hid (R = (((P.data.toList.drop 0).all (fun c => firstOk c.toNat) && x3) && some c0 != some 45)) := HR1.out
      clear HR1
      go_wp2
      go_loopg [21] (P.size + 1) (fun g v21 wr => ∃ k : Nat, v21 = .int .i64 k ∧ P.size < k + g ∧ k ≤ P.size ∧ w3 = wr ∧ Hid (R = (((P.data.toList.drop k).all (fun c => firstOk c.toNat) && x3) && some c0 != some 45)))
      case atStart => exact ⟨0, rfl, by omega, by omega, rfl, HR2⟩
      case round =>
        clear HR2
        obtain ⟨k, rfl, hg, hk, rfl, HK⟩ := hrel
        by_cases hlt : k < P.size
        · obtain ⟨d, hd⟩ : ∃ d : UInt8, P[k]'hlt = d := ⟨_, rfl⟩
          have hd256 := d.toNat_lt
          have hl : k < P.data.toList.length := by rw [← Lib.size_eq]; exact hlt
          have hdd : P.data.toList[k] = d := Option.some.inj ((List.getElem?_eq_getElem hl).symm.trans (byte_at' P k hlt hd))
          obtain ⟨f, hf⟩ : ∃ f, firstOk d.toNat = f := ⟨_, rfl⟩
          have HK2 : Hid (R = ((f && ((P.data.toList.drop (k + 1)).all (fun c => firstOk c.toNat) && x3)) && some c0 != some 45)) := by
            show _ = _; rw [HK.out, List.drop_eq_getElem_cons hl, hdd, List.all_cons, hf]; simp only [Bool.and_assoc]
          clear HK hl hdd
          unfold firstOk at hf
          cases f with
          | true =>
            have HN : Hid (R = (((P.data.toList.drop (k + 1)).all (fun c => firstOk c.toNat) && x3) && some c0 != some 45)) := HK2.out
            rw [decide_eq_true_eq] at hf
            clear HK2
            rcases hf with hf | hf | hf | hf
            case inl =>
              obtain rfl : d = 45 := UInt8.toNat_inj.1 hf
              clear hf
              go_wp2
              go_roundg (gk - 1)
              case measure => omega
              case rel => exact ⟨k + 1, by go_num, by omega, by omega, rfl, HN⟩
            case inr.inl =>
              obtain rfl : d = 46 := UInt8.toNat_inj.1 hf
              clear hf
              go_wp2
              go_roundg (gk - 1)
              case measure => omega
              case rel => exact ⟨k + 1, by go_num, by omega, by omega, rfl, HN⟩
            all_goals
              obtain ⟨u1, u2⟩ := hf
              go_wp2
              go_roundg (gk - 1)
              case measure => omega
              case rel => exact ⟨k + 1, by go_num, by omega, by omega, rfl, HN⟩
          | false =>
            obtain rfl : R = false := HK2.out
            rw [decide_eq_false_iff_not] at hf
            have e45 : ((d.toNat : Int) == 45) = false := eqb_f (m := 45) (by omega)
            have e46 : ((d.toNat : Int) == 46) = false := eqb_f (m := 46) (by omega)
            have ways : d.toNat < 48 ∨ (57 < d.toNat ∧ d.toNat < 97) ∨ 122 < d.toNat := by omega
            clear HK2 hf hg
            rcases ways with q | q | q
            · go_wp2
              go_ret
              exact ⟨rfl, G3.out⟩
            · have f57 : decide ((d.toNat : Int) ≤ 57) = false := decide_eq_false (by omega)
              go_wp2
              go_ret
              exact ⟨rfl, G3.out⟩
            · have f57 : decide ((d.toNat : Int) ≤ 57) = false := decide_eq_false (by omega)
              have f122 : decide ((d.toNat : Int) ≤ 122) = false := decide_eq_false (by omega)
              go_wp2
              go_ret
              exact ⟨rfl, G3.out⟩
        · have HRR : Hid (R = (x3 && some c0 != some 45)) := by
            show _ = _; rw [HK.out, List.drop_eq_nil_of_le (by rw [← Lib.size_eq]; omega)]; rfl
          clear HK hg
          cases x3 with
          | false =>
            obtain rfl : R = false := HRR.out
            clear HRR
            go_wp2_with fail
            refine (CS.out _).mono ?_
            rintro e w4 ⟨rfl, d4⟩
            have G4 := Lib.hid (G3.out.dr d4)
            clear d4
            go_wp2
            go_ret
            exact ⟨rfl, G4.out⟩
          | true =>
            by_cases h45 : c0 = 45
            · obtain rfl : R = false := by rw [HRR.out, h45]; rfl
              have e1 : ((c0.toNat : Int) != 45) = false := by rw [h45]; rfl
              clear HRR h45
              go_wp2_with fail
              refine (CS.out _).mono ?_
              rintro e w4 ⟨rfl, d4⟩
              have G4 := Lib.hid (G3.out.dr d4)
              clear d4
              go_wp2
              go_ret
              exact ⟨rfl, G4.out⟩
            · obtain rfl : R = true := by rw [HRR.out, Bool.true_and, bne_iff_ne]; simpa using h45
              have e1 : ((c0.toNat : Int) != 45) = true := by rw [bne, show ((c0.toNat : Int) == 45) = false from ne_nat h45]; rfl
              clear HRR h45
              go_wp2_with fail
              refine (CS.out _).mono ?_
              rintro e w4 ⟨rfl, d4⟩
              have G4 := Lib.hid (G3.out.dr d4)
              clear d4
              go_wp2
              go_ret
              exact ⟨rfl, G4.out⟩
end Go.Proofs.YtndimgajkjkgfaaDoor
