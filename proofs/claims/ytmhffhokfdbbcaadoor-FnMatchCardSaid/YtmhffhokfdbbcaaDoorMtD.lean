/- The walk of path.Match over simple patterns. -/
import Derived.Test.YtmhffhokfdbbcaaDoorMtB
import Derived.Test.YtmhffhokfdbbcaaDoorMtC
import Derived.Lib.Bytealg
import Derived.WalkMore
namespace Go.Proofs.YtmhffhokfdbbcaaDoor
open Go.RowKit Str
set_option linter.unusedVariables false

theorem Cut_shorter {pat chunk rest : List UInt8} {star : Bool} (h : Glob.Cut pat star chunk rest) (hp : pat ≠ []) : rest.length < pat.length := by
  obtain ⟨k, he, hk⟩ := h.eq
  by_cases hc : chunk = []
  · rw [h.last hc]
    cases pat with
    | nil => exact absurd rfl hp
    | cons a l => simp
  · have : 0 < chunk.length := List.length_pos_iff.2 hc
    rw [he]
    simp only [List.length_append, List.length_replicate]
    omega
theorem Cut_sub {pat chunk rest : List UInt8} {star : Bool} (h : Glob.Cut pat star chunk rest) : (∀ x ∈ chunk, x ∈ pat) ∧ (∀ x ∈ rest, x ∈ pat) ∧ chunk.length ≤ pat.length := by
  obtain ⟨k, he, hk⟩ := h.eq
  rw [he]
  refine ⟨fun x hx => by simp [hx], fun x hx => by simp [hx], ?_⟩
  simp only [List.length_append, List.length_replicate]
  omega
theorem Cut_unstarred_ne {pat chunk rest : List UInt8} (h : Glob.Cut pat false chunk rest) (hp : pat ≠ []) : chunk ≠ [] := by
  obtain ⟨k, he, hk⟩ := h.eq
  intro hc
  have hr := h.last hc
  have hk0 : k = 0 := by
    by_cases h0 : 0 < k
    · have := hk.2 h0; cases this
    · omega
  apply hp
  rw [he, hc, hr, hk0]; rfl

/-- scanChunk's contract, in texts -/
def ScanT (t : ByteArray) (e : Ending) : Prop := ∃ (star : Bool) (C R : ByteArray), e = .returned (.tuple #[.bool star, .string C, .string R]) ∧ Glob.Cut t.data.toList star C.data.toList R.data.toList
theorem ScanE.texts {t : ByteArray} {e : Ending} (h : ScanE t.data.toList e) : ScanT t e := by
  obtain ⟨star, c, r, rfl, hc⟩ := h
  exact ⟨star, B c, B r, rfl, by rw [B_data, B_data]; exact hc⟩
/-- matchChunk's contract, in texts -/
def ChunkT (C t : ByteArray) (e : Ending) : Prop := ∃ (ok : Bool) (T : ByteArray), e = .returned (.tuple #[.string T, .bool ok, .nilIface]) ∧ Glob.fits C.data.toList t.data.toList = ok ∧ (ok = true → T.data.toList = t.data.toList.drop C.data.toList.length)
theorem ChunkE.texts {C t : ByteArray} {e : Ending} (h : ChunkE C.data.toList t.data.toList e) : ChunkT C t e := by
  rcases h with ⟨h, rfl⟩ | ⟨h, rfl⟩
  · exact ⟨false, ⟨#[]⟩, rfl, h, fun h => by cases h⟩
  · exact ⟨true, _, rfl, h, fun _ => by rw [B_data]⟩

/-- what path.Match hands back -/
def MatchE (l m : List UInt8) (e : Ending) : Prop := ∃ r, e = .returned (.tuple #[.bool r, .nilIface]) ∧ (r = true ↔ Glob.Mt l m)
theorem MatchE.of {l m : List UInt8} {r : Bool} (h : r = true ↔ Glob.Mt l m) : MatchE l m (.returned (.tuple #[.bool r, .nilIface])) := ⟨r, rfl, h⟩

theorem index_none (l : List UInt8) : Lib.indexByte l 47 < 0 ↔ ∀ d ∈ l, d ≠ 47 := by
  induction l with
  | nil => simp [Lib.indexByte]
  | cons b l ih =>
    have hge := Lib.indexByte_ge l 47
    unfold Lib.indexByte
    by_cases hb : b = 47
    · simp [hb]
    · have hb' : (b == 47) = false := beq_eq_false_iff_ne.2 hb
      rw [hb']
      simp only [Bool.false_eq_true, if_false, List.mem_cons, forall_eq_or_imp]
      by_cases h1 : Lib.indexByte l 47 = -1
      · have : (Lib.indexByte l 47 == -1) = true := beq_iff_eq.2 h1
        rw [this]
        simp only [if_true]
        exact ⟨fun _ => ⟨hb, ih.1 (by omega)⟩, fun _ => by omega⟩
      · have : (Lib.indexByte l 47 == -1) = false := beq_eq_false_iff_ne.2 h1
        rw [this]
        simp only [Bool.false_eq_true, if_false]
        exact ⟨fun h => by omega, fun h => by have := ih.2 h.2; omega⟩

theorem emp_true {s : ByteArray} (h : s.size = 0) : (s.toList == ([] : List UInt8)) = true := by
  rw [Lib.toList_data, beq_iff_eq]; exact List.eq_nil_of_length_eq_zero (by rw [← Lib.size_eq]; exact h)

set_option maxRecDepth 100000 in
set_option maxHeartbeats 16000000 in
theorem pathMatch_calls (p s : ByteArray) (hp : ∀ x ∈ p.data.toList, okc x.toNat = true) (hs : ∀ x ∈ s.data.toList, x.toNat < 128) (w : World) (hps : p.size ≤ 1000) (hss : s.size ≤ 1000) :
    Calls Tryd.prog 15 #[.string p, .string s] w fun e w' => MatchE p.data.toList s.data.toList e ∧ Drew w w' := by
  have HP := Lib.hid hp
  have HS := Lib.hid hs
  clear hp hs
  go_enter Tryd.func15, Tryd.ntmps15
  go_wp2
  go_step3
  go_wp2
  go_step3
  go_wp2
  go_loopg [0, 1] (p.size + 1) (fun g v0 v1 wr => ∃ (q t : ByteArray), v0 = .string q ∧ v1 = .string t ∧ q.size < g ∧ q.size ≤ p.size ∧ t.size ≤ s.size ∧ Drew w wr ∧ Hid ((Glob.Mt p.data.toList s.data.toList ↔ Glob.Mt q.data.toList t.data.toList) ∧ (∀ x ∈ q.data.toList, okc x.toNat = true) ∧ (∀ x ∈ t.data.toList, x.toNat < 128)))
  case atStart => exact ⟨p, s, rfl, rfl, by omega, Nat.le_refl _, Nat.le_refl _, Drew.refl _, ⟨Iff.rfl, HP.out, HS.out⟩⟩
  case round =>
    obtain ⟨q, t, rfl, rfl, hg, hq, ht, hdr, HK⟩ := hrel
    have HD := Lib.hid hdr
    clear hdr HP HS
    by_cases hz : 0 < q.size
    · have hz' : (0 : Int) < (q.size : Int) := by omega
      have CS : Hid (∀ w, Calls Tryd.prog 18 #[.string q] w fun e w' => ScanT q e ∧ Drew w w') := fun w =>
        (scanChunk_calls q HK.out.2.1 w (by omega)).mono fun e w' h => ⟨h.1.texts, h.2⟩
      go_wp2_with fail
      refine (CS.out _).mono ?_
      rintro e w1 ⟨⟨star, C, R, rfl, hcut⟩, d1⟩
      have HQ : Hid (q.data.toList ≠ []) := by
        show _ ≠ _; intro e; rw [Lib.size_eq, e] at hz; simp at hz
      have HC := Lib.hid hcut
      have HD1 := Lib.hid (HD.out.trans d1)
      have hsub := Cut_sub hcut
      have hC : C.size ≤ q.size := by rw [Lib.size_eq, Lib.size_eq]; exact hsub.2.2
      have hR : R.size < q.size := by rw [Lib.size_eq, Lib.size_eq]; exact Cut_shorter hcut HQ.out
      have HCo : Hid (∀ x ∈ C.data.toList, okc x.toNat = true) := fun x hx => HK.out.2.1 x (hsub.1 x hx)
      have HRo : Hid (∀ x ∈ R.data.toList, okc x.toNat = true) := fun x hx => HK.out.2.1 x (hsub.2.1 x hx)
      have HTo : Hid (∀ x ∈ t.data.toList, x.toNat < 128) := HK.out.2.2
      have HM : Hid (Glob.Mt p.data.toList s.data.toList ↔ Glob.Mt q.data.toList t.data.toList) := HK.out.1
      have CM : Hid (∀ w, Calls Tryd.prog 20 #[.string C, .string t] w fun e w' => ChunkT C t e ∧ Drew w w') := fun w =>
        (matchChunk_calls C t HCo.out HTo.out w (by omega) (by omega)).mono fun e w' h => ⟨h.1.texts, h.2⟩
      have CM2 : Hid (∀ k w, Calls Tryd.prog 20 #[.string C, .string (t.extract k t.size)] w fun e w' => ChunkT C (t.extract k t.size) e ∧ Drew w w') := fun k w => by
        refine (matchChunk_calls C _ HCo.out (fun x hx => HTo.out x ?_) w (by omega) ?_).mono fun e w' h => ⟨h.1.texts, h.2⟩
        · rw [Lib.extract_to_end] at hx; exact List.mem_of_mem_drop hx
        · rw [Lib.size_eq, Lib.extract_to_end, List.length_drop, ← Lib.size_eq]; omega
      clear hcut hsub d1 HD CS HK hz hz'
      obtain ⟨G, hG⟩ : ∃ G, G = gk := ⟨_, rfl⟩
      have HG := Lib.hid hG
      clear hG
      cases star with
      | true =>
        by_cases hC0 : C.size = 0
        · have e0 := emp_true hC0
          have HF : Hid (decide (Lib.indexByte t.data.toList 47 < 0) = true ↔ Glob.Mt p.data.toList s.data.toList) := by
            show _ ↔ _
            rw [HM.out, decide_eq_true_eq, HC.out.only_star (List.eq_nil_of_length_eq_zero (by rw [← Lib.size_eq]; exact hC0)), index_none]
          clear HC HM CM HCo HRo HTo HQ HG hg hC0
          go_wp2
          rw [run_callFunc_extern Tryd.func19 (by kernel_rfl) (by kernel_rfl) (by kernel_rfl) (e := Extern.BytealgIndexByte.indexByte) (by kernel_rfl), Lib.run_indexByteString]
          simp only [Result.andThen]
          rw [Oper.upon_value]
          go_wp2
          rw [Exit.noGoto_ret]
          go_ret2
          exact ⟨MatchE.of HF.out, HD1.out⟩
        · have e0 : (C.toList == ([] : List UInt8)) = false := toList_ne (by omega)
          go_wp2_with fail
          refine (CM.out _).mono ?_
          rintro e w2 ⟨⟨f, T, rfl, hfit, hT⟩, d2⟩
          have HD2 := Lib.hid (HD1.out.trans d2)
          clear d2 HD1 CM
          -- the piece fits here
          by_cases hgood : f = true ∧ (T.size = 0 ∨ 0 < R.size)
          · obtain ⟨rfl, hgood⟩ := hgood
            have HN : Hid ((Glob.Mt p.data.toList s.data.toList ↔ Glob.Mt R.data.toList T.data.toList) ∧ (∀ x ∈ R.data.toList, okc x.toNat = true) ∧ (∀ x ∈ T.data.toList, x.toNat < 128)) := by
              refine ⟨?_, HRo.out, fun x hx => HTo.out x ?_⟩
              · rw [HM.out, HC.out.first t.data.toList 0 (Nat.zero_le _) (fun j h => absurd h (by omega)) (by rw [List.drop_zero]; exact hfit) ?_ (fun i h => absurd h (by omega)), Nat.zero_add, ← hT rfl]
                intro hr
                rw [Nat.zero_add, ← hT rfl]
                rcases hgood with h | h
                · exact List.eq_nil_of_length_eq_zero (by rw [← Lib.size_eq]; exact h)
                · rw [Lib.size_eq, hr] at h; simp at h
              · rw [hT rfl] at hx; exact List.mem_of_mem_drop hx
            have hTs : T.size ≤ t.size := by rw [Lib.size_eq, Lib.size_eq, hT rfl, List.length_drop]; omega
            have ways : ((T.size : Int) == 0) = true ∨ (((T.size : Int) == 0) = false ∧ (0 : Int) < (R.size : Int)) := by
              by_cases h : T.size = 0
              · left; exact beq_iff_eq.2 (by omega)
              · right; exact ⟨beq_eq_false_iff_ne.2 (by omega), by omega⟩
            clear HC HM HCo HRo HTo HQ hfit hT hgood
            rcases ways with h1 | ⟨h1, h2⟩
            all_goals
              go_wp2
              go_roundg (gk - 1)
              case measure => omega
              case rel => exact ⟨R, T, rfl, rfl, by omega, by omega, by omega, HD2.out, HN⟩
          · have HNo : Hid (¬ (Glob.fits C.data.toList (t.data.toList.drop 0) = true ∧ (R.data.toList = [] → t.data.toList.drop (0 + C.data.toList.length) = []))) := by
              rintro ⟨h1, h2⟩
              rw [List.drop_zero, hfit] at h1
              apply hgood
              refine ⟨h1, ?_⟩
              by_cases hr : R.data.toList = []
              · left
                have := h2 hr
                rw [Nat.zero_add, ← hT h1] at this
                rw [Lib.size_eq, this]; rfl
              · right
                rw [Lib.size_eq]; exact List.length_pos_iff.2 hr
            have ways : f = false ∨ (f = true ∧ ((T.size : Int) == 0) = false ∧ decide (0 < R.size) = false) := by
              cases f with
              | false => left; rfl
              | true =>
                right
                refine ⟨rfl, beq_eq_false_iff_ne.2 ?_, decide_eq_false ?_⟩
                · intro h; exact hgood ⟨rfl, .inl (by omega)⟩
                · intro h; exact hgood ⟨rfl, .inr (by omega)⟩
            clear hfit hT hgood hC0
            have HAt : Hid (∀ (k : Nat) (hlt : k < t.size) (d : UInt8), t[k]'hlt = d → t.data.toList[k]? = some d) := fun k hlt d hd => byte_at' t k hlt hd
            rcases ways with rfl | ⟨rfl, h1, h2⟩
            all_goals
              go_wp2
              go_loopg [1, 11] (t.size + 1) (fun g v1 v11 wx => ∃ i : Nat, v1 = .string t ∧ v11 = .int .i64 i ∧ t.size < i + g ∧ i ≤ t.size ∧ Drew w wx ∧ Hid ((∀ j, j < i → t.data.toList[j]? ≠ some 47) ∧ (∀ j, j ≤ i → ¬ (Glob.fits C.data.toList (t.data.toList.drop j) = true ∧ (R.data.toList = [] → t.data.toList.drop (j + C.data.toList.length) = [])))))
              case atStart => exact ⟨0, rfl, rfl, by omega, by omega, HD2.out, ⟨fun j h => absurd h (by omega), fun j h => by rw [show j = 0 from by omega]; exact HNo.out⟩⟩
              case round =>
                obtain ⟨i, rfl, rfl, hgi, hi, hdw, HI⟩ := hrel
                clear HD2 HNo
                have HDW := Lib.hid hdw
                clear hdw
                by_cases hlt : i < t.size
                · obtain ⟨d, hd⟩ : ∃ d : UInt8, t[i]'hlt = d := ⟨_, rfl⟩
                  have hlt' : (i : Int) < (t.size : Int) := by omega
                  have hdi := HAt.out i hlt d hd
                  by_cases h47 : d = 47
                  · subst h47
                    have HN : Hid (false = true ↔ Glob.Mt p.data.toList s.data.toList) := by
                      show _ ↔ _
                      rw [HM.out]
                      refine ⟨fun h => (by cases h), fun h => absurd h (HC.out.nowhere _ fun j hj hsj => ?_)⟩
                      by_cases hji : j ≤ i
                      · exact HI.out.2 j hji
                      · exact absurd hdi (hsj i (by omega))
                    clear HC HM HCo HTo HQ HI HAt hdi CM2 hgi
                    go_wp2
                    go_loopg [0] (R.size + 1) (fun g v0 wx => ∃ r : ByteArray, v0 = .string r ∧ r.size < g ∧ r.size ≤ R.size ∧ Drew w wx ∧ Hid (∀ x ∈ r.data.toList, okc x.toNat = true))
                    case atStart => exact ⟨R, rfl, by omega, Nat.le_refl _, HDW.out, HRo.out⟩
                    case round =>
                      obtain ⟨r, rfl, hgr, hr, hdx, HKr⟩ := hrel
                      clear HRo HDW
                      have HDX := Lib.hid hdx
                      clear hdx
                      by_cases hrz : 0 < r.size
                      · have hrz' : (0 : Int) < (r.size : Int) := by omega
                        have CS3 : Hid (∀ w, Calls Tryd.prog 18 #[.string r] w fun e w' => ScanT r e ∧ Drew w w') := fun w =>
                          (scanChunk_calls r HKr.out w (by omega)).mono fun e w' h => ⟨h.1.texts, h.2⟩
                        go_wp2_with fail
                        refine (CS3.out _).mono ?_
                        rintro e w4 ⟨⟨st, C', R', rfl, hcut'⟩, d4⟩
                        have HD4 := Lib.hid (HDX.out.trans d4)
                        have hsub' := Cut_sub hcut'
                        have hR' : R'.size < r.size := by
                          rw [Lib.size_eq, Lib.size_eq]; exact Cut_shorter hcut' (fun e => by rw [Lib.size_eq, e] at hrz; simp at hrz)
                        have hC' : C'.size ≤ r.size := by rw [Lib.size_eq, Lib.size_eq]; exact hsub'.2.2
                        have HRo' : Hid (∀ x ∈ R'.data.toList, okc x.toNat = true) := fun x hx => HKr.out x (hsub'.2.1 x hx)
                        have CM3 : Hid (∀ w, Calls Tryd.prog 20 #[.string C', .string ⟨#[]⟩] w fun e w' => ChunkT C' ⟨#[]⟩ e ∧ Drew w w') := fun w =>
                          (matchChunk_calls C' ⟨#[]⟩ (fun x hx => HKr.out x (hsub'.1 x hx)) (fun x hx => by cases hx) w (by omega) (by decide)).mono fun e w' h => ⟨h.1.texts, h.2⟩
                        clear d4 HDX hsub' hcut' HKr CS3 hrz hrz'
                        go_wp2_with fail
                        refine (CM3.out _).mono ?_
                        rintro e w5 ⟨⟨f5, T5, rfl, hfit5, hT5⟩, d5⟩
                        have HD5 := Lib.hid (HD4.out.trans d5)
                        clear d5 HD4 hfit5 hT5 CM3
                        go_wp2
                        go_roundg (gk - 1)
                        case measure => omega
                        case rel => exact ⟨R', rfl, by omega, by omega, HD5.out, HRo'.out⟩
                      · have hrz' : ¬ (0 : Int) < (r.size : Int) := by omega
                        clear hgr HKr
                        go_wp2
                        first | go_ret2 | (rw [Exit.noGoto_ret]; go_ret2)
                        exact ⟨MatchE.of HN.out, HDX.out⟩
                  · have e47 : ((d.toNat : Int) == 47) = false := ne_nat h47
                    have hle : (i : Int) + 1 ≤ (t.size : Int) := by omega
                    have hnn : ((i : Int) + 1).toNat = i + 1 := by omega
                    have CMi : Hid (∀ w, Calls Tryd.prog 20 #[.string C, .string (t.extract (i + 1) t.size)] w fun e w' => ChunkT C (t.extract (i + 1) t.size) e ∧ Drew w w') := CM2.out (i + 1)
                    obtain ⟨U, hU⟩ : ∃ U, t.extract (i + 1) t.size = U := ⟨_, rfl⟩
                    have HU : Hid (U.data.toList = t.data.toList.drop (i + 1)) := by show _ = _; rw [← hU, Lib.extract_to_end]
                    rw [hU] at CMi
                    have H47 : Hid (∀ j, j < i + 1 → t.data.toList[j]? ≠ some 47) := fun j hj => by
                      by_cases e : j = i
                      · subst e; rw [hdi]; intro h; exact h47 (Option.some.inj h)
                      · exact HI.out.1 j (by omega)
                    have HI2 := Lib.hid HI.out.2
                    clear HI hdi h47
                    go_wp2_with fail
                    refine (CMi.out _).mono ?_
                    rintro e w3 ⟨⟨f3, T3, rfl, hfit3, hT3⟩, d3⟩
                    have HD3 := Lib.hid (HDW.out.trans d3)
                    clear d3 HDW CMi
                    by_cases hgood3 : f3 = true ∧ (T3.size = 0 ∨ 0 < R.size)
                    · obtain ⟨rfl, hgood3⟩ := hgood3
                      have HN : Hid ((Glob.Mt p.data.toList s.data.toList ↔ Glob.Mt R.data.toList T3.data.toList) ∧ (∀ x ∈ R.data.toList, okc x.toNat = true) ∧ (∀ x ∈ T3.data.toList, x.toNat < 128)) := by
                        have h3 : T3.data.toList = t.data.toList.drop (i + 1 + C.data.toList.length) := by rw [hT3 rfl, HU.out, List.drop_drop]
                        refine ⟨?_, HRo.out, fun x hx => HTo.out x ?_⟩
                        · rw [HM.out, HC.out.first t.data.toList (i + 1) (by rw [← Lib.size_eq]; omega) H47.out (by rw [← HU.out]; exact hfit3) ?_ (fun j hj => HI2.out j (by omega)), ← h3]
                          intro hr
                          rw [← h3]
                          rcases hgood3 with h | h
                          · exact List.eq_nil_of_length_eq_zero (by rw [← Lib.size_eq]; exact h)
                          · rw [Lib.size_eq, hr] at h; simp at h
                        · rw [h3] at hx; exact List.mem_of_mem_drop hx
                      have hTs : T3.size ≤ t.size := by rw [Lib.size_eq, Lib.size_eq, hT3 rfl, List.length_drop, HU.out, List.length_drop]; omega
                      have ways3 : (((R.size : Int) == 0) = false) ∨ (((R.size : Int) == 0) = true ∧ decide (0 < T3.size) = false) := by
                        by_cases h : R.size = 0
                        · right
                          refine ⟨beq_iff_eq.2 (by omega), decide_eq_false ?_⟩
                          rcases hgood3 with h' | h' <;> omega
                        · left; exact beq_eq_false_iff_ne.2 (by omega)
                      clear HC HM HCo HTo HQ HAt CM2 hgi hfit3 hT3 hgood3 HI2 H47 HU hU hd hlt hlt' e47 hle hnn HRo
                      rcases ways3 with g1 | ⟨g1, g2⟩
                      all_goals
                        go_wp2
                        go_roundg (G - 1)
                        case measure => have := HG.out; omega
                        case rel => exact ⟨R, T3, rfl, rfl, by have := HG.out; omega, by omega, by omega, HD3.out, HN⟩
                    · have HN : Hid ((∀ j, j < i + 1 → t.data.toList[j]? ≠ some 47) ∧ (∀ j, j ≤ i + 1 → ¬ (Glob.fits C.data.toList (t.data.toList.drop j) = true ∧ (R.data.toList = [] → t.data.toList.drop (j + C.data.toList.length) = [])))) := by
                        refine ⟨H47.out, fun j hj => ?_⟩
                        by_cases e : j = i + 1
                        · subst e
                          rintro ⟨h1, h2⟩
                          rw [← HU.out, hfit3] at h1
                          apply hgood3
                          refine ⟨h1, ?_⟩
                          by_cases hr : R.data.toList = []
                          · left
                            have := h2 hr
                            rw [← List.drop_drop, ← HU.out, ← hT3 h1] at this
                            rw [Lib.size_eq, this]; rfl
                          · right
                            rw [Lib.size_eq]; exact List.length_pos_iff.2 hr
                        · exact HI2.out j (by omega)
                      have ways3 : f3 = false ∨ (f3 = true ∧ ((R.size : Int) == 0) = true ∧ (0 : Int) < (T3.size : Int)) := by
                        cases f3 with
                        | false => left; rfl
                        | true =>
                          right
                          refine ⟨rfl, beq_iff_eq.2 ?_, ?_⟩
                          · by_cases h : R.size = 0
                            · omega
                            · exact absurd ⟨rfl, .inr (by omega)⟩ hgood3
                          · by_cases h : T3.size = 0
                            · exact absurd ⟨rfl, .inl h⟩ hgood3
                            · omega
                      clear HC HM HCo HTo HQ HAt CM2 hfit3 hT3 hgood3 HI2 H47 HU hU hd hlt' e47 hle HRo
                      rcases ways3 with rfl | ⟨rfl, g1, g2⟩
                      all_goals
                        go_wp2
                        go_roundg (gk - 1)
                        case measure => omega
                        case rel => exact ⟨i + 1, rfl, by go_num, by omega, by omega, HD3.out, HN⟩
                · have hlt' : decide ((i : Int) < (t.size : Int)) = false := decide_eq_false (by omega)
                  have HN : Hid (false = true ↔ Glob.Mt p.data.toList s.data.toList) := by
                    show _ ↔ _
                    rw [HM.out]
                    refine ⟨fun h => (by cases h), fun h => absurd h (HC.out.nowhere _ fun j hj hsj => ?_)⟩
                    exact HI.out.2 j (by rw [← Lib.size_eq] at hj; omega)
                  clear HC HM HCo HTo HQ HI HAt CM2 hgi
                  go_wp2
                  go_loopg [0] (R.size + 1) (fun g v0 wx => ∃ r : ByteArray, v0 = .string r ∧ r.size < g ∧ r.size ≤ R.size ∧ Drew w wx ∧ Hid (∀ x ∈ r.data.toList, okc x.toNat = true))
                  case atStart => exact ⟨R, rfl, by omega, Nat.le_refl _, HDW.out, HRo.out⟩
                  case round =>
                    obtain ⟨r, rfl, hgr, hr, hdx, HKr⟩ := hrel
                    clear HRo HDW
                    have HDX := Lib.hid hdx
                    clear hdx
                    by_cases hrz : 0 < r.size
                    · have hrz' : (0 : Int) < (r.size : Int) := by omega
                      have CS3 : Hid (∀ w, Calls Tryd.prog 18 #[.string r] w fun e w' => ScanT r e ∧ Drew w w') := fun w =>
                        (scanChunk_calls r HKr.out w (by omega)).mono fun e w' h => ⟨h.1.texts, h.2⟩
                      go_wp2_with fail
                      refine (CS3.out _).mono ?_
                      rintro e w4 ⟨⟨st, C', R', rfl, hcut'⟩, d4⟩
                      have HD4 := Lib.hid (HDX.out.trans d4)
                      have hsub' := Cut_sub hcut'
                      have hR' : R'.size < r.size := by
                        rw [Lib.size_eq, Lib.size_eq]; exact Cut_shorter hcut' (fun e => by rw [Lib.size_eq, e] at hrz; simp at hrz)
                      have hC' : C'.size ≤ r.size := by rw [Lib.size_eq, Lib.size_eq]; exact hsub'.2.2
                      have HRo' : Hid (∀ x ∈ R'.data.toList, okc x.toNat = true) := fun x hx => HKr.out x (hsub'.2.1 x hx)
                      have CM3 : Hid (∀ w, Calls Tryd.prog 20 #[.string C', .string ⟨#[]⟩] w fun e w' => ChunkT C' ⟨#[]⟩ e ∧ Drew w w') := fun w =>
                        (matchChunk_calls C' ⟨#[]⟩ (fun x hx => HKr.out x (hsub'.1 x hx)) (fun x hx => by cases hx) w (by omega) (by decide)).mono fun e w' h => ⟨h.1.texts, h.2⟩
                      clear d4 HDX hsub' hcut' HKr CS3 hrz hrz'
                      go_wp2_with fail
                      refine (CM3.out _).mono ?_
                      rintro e w5 ⟨⟨f5, T5, rfl, hfit5, hT5⟩, d5⟩
                      have HD5 := Lib.hid (HD4.out.trans d5)
                      clear d5 HD4 hfit5 hT5 CM3
                      go_wp2
                      go_roundg (gk - 1)
                      case measure => omega
                      case rel => exact ⟨R', rfl, by omega, by omega, HD5.out, HRo'.out⟩
                    · have hrz' : ¬ (0 : Int) < (r.size : Int) := by omega
                      clear hgr HKr
                      go_wp2
                      first | go_ret2 | (rw [Exit.noGoto_ret]; go_ret2)
                      exact ⟨MatchE.of HN.out, HDX.out⟩
      | false =>
        go_wp2_with fail
        refine (CM.out _).mono ?_
        rintro e w2 ⟨⟨f, T, rfl, hfit, hT⟩, d2⟩
        have HD2 := Lib.hid (HD1.out.trans d2)
        clear d2 HD1 CM CM2
        by_cases hgood : f = true ∧ (T.size = 0 ∨ 0 < R.size)
        · obtain ⟨rfl, hgood⟩ := hgood
          have HN : Hid ((Glob.Mt p.data.toList s.data.toList ↔ Glob.Mt R.data.toList T.data.toList) ∧ (∀ x ∈ R.data.toList, okc x.toNat = true) ∧ (∀ x ∈ T.data.toList, x.toNat < 128)) := by
            refine ⟨?_, HRo.out, fun x hx => HTo.out x ?_⟩
            · rw [HM.out, HC.out.plain, hfit, hT rfl]; simp
            · rw [hT rfl] at hx; exact List.mem_of_mem_drop hx
          have hTs : T.size ≤ t.size := by rw [Lib.size_eq, Lib.size_eq, hT rfl, List.length_drop]; omega
          have ways : ((T.size : Int) == 0) = true ∨ (((T.size : Int) == 0) = false ∧ (0 : Int) < (R.size : Int)) := by
            by_cases h : T.size = 0
            · left; exact beq_iff_eq.2 (by omega)
            · right; exact ⟨beq_eq_false_iff_ne.2 (by omega), by omega⟩
          clear HC HM HCo HRo HTo HQ hfit hT hgood
          rcases ways with h1 | ⟨h1, h2⟩
          all_goals
            go_wp2
            go_roundg (gk - 1)
            case measure => omega
            case rel => exact ⟨R, T, rfl, rfl, by omega, by omega, by omega, HD2.out, HN⟩
        · have HNo : Hid (false = true ↔ Glob.Mt p.data.toList s.data.toList) := by
            show _ ↔ _
            rw [HM.out, HC.out.plain]
            refine ⟨fun h => (by cases h), ?_⟩
            rintro ⟨h1, h2⟩
            exfalso
            rw [hfit] at h1
            apply hgood
            refine ⟨h1, ?_⟩
            by_cases hr : R.data.toList = []
            · left
              rw [hr, ← hT h1] at h2
              have h3 : T.data.toList = [] := h2
              rw [Lib.size_eq, h3]; rfl
            · right
              rw [Lib.size_eq]; exact List.length_pos_iff.2 hr
          have ways : f = false ∨ (f = true ∧ ((T.size : Int) == 0) = false ∧ decide (0 < R.size) = false) := by
            cases f with
            | false => left; rfl
            | true =>
              right
              refine ⟨rfl, beq_eq_false_iff_ne.2 ?_, decide_eq_false ?_⟩
              · intro h; exact hgood ⟨rfl, .inl (by omega)⟩
              · intro h; exact hgood ⟨rfl, .inr (by omega)⟩
          clear HC HM HCo HTo HQ hfit hT hgood
          rcases ways with rfl | ⟨rfl, h1, h2⟩
          all_goals
            go_wp2
            go_loopg [0] (R.size + 1) (fun g v0 wx => ∃ r : ByteArray, v0 = .string r ∧ r.size < g ∧ r.size ≤ R.size ∧ Drew w wx ∧ Hid (∀ x ∈ r.data.toList, okc x.toNat = true))
            case atStart => exact ⟨R, rfl, by omega, Nat.le_refl _, HD2.out, HRo.out⟩
            case round =>
              obtain ⟨r, rfl, hgr, hr, hdx, HKr⟩ := hrel
              clear HRo HD2
              have HDX := Lib.hid hdx
              clear hdx
              by_cases hrz : 0 < r.size
              · have hrz' : (0 : Int) < (r.size : Int) := by omega
                have CS3 : Hid (∀ w, Calls Tryd.prog 18 #[.string r] w fun e w' => ScanT r e ∧ Drew w w') := fun w =>
                  (scanChunk_calls r HKr.out w (by omega)).mono fun e w' h => ⟨h.1.texts, h.2⟩
                go_wp2_with fail
                refine (CS3.out _).mono ?_
                rintro e w4 ⟨⟨st, C', R', rfl, hcut'⟩, d4⟩
                have HD4 := Lib.hid (HDX.out.trans d4)
                have hsub' := Cut_sub hcut'
                have hR' : R'.size < r.size := by
                  rw [Lib.size_eq, Lib.size_eq]; exact Cut_shorter hcut' (fun e => by rw [Lib.size_eq, e] at hrz; simp at hrz)
                have hC' : C'.size ≤ r.size := by rw [Lib.size_eq, Lib.size_eq]; exact hsub'.2.2
                have HRo' : Hid (∀ x ∈ R'.data.toList, okc x.toNat = true) := fun x hx => HKr.out x (hsub'.2.1 x hx)
                have CM3 : Hid (∀ w, Calls Tryd.prog 20 #[.string C', .string ⟨#[]⟩] w fun e w' => ChunkT C' ⟨#[]⟩ e ∧ Drew w w') := fun w =>
                  (matchChunk_calls C' ⟨#[]⟩ (fun x hx => HKr.out x (hsub'.1 x hx)) (fun x hx => by cases hx) w (by omega) (by decide)).mono fun e w' h => ⟨h.1.texts, h.2⟩
                clear d4 HDX hsub' hcut' HKr CS3 hrz hrz'
                go_wp2_with fail
                refine (CM3.out _).mono ?_
                rintro e w5 ⟨⟨f5, T5, rfl, hfit5, hT5⟩, d5⟩
                have HD5 := Lib.hid (HD4.out.trans d5)
                clear d5 HD4 hfit5 hT5 CM3
                go_wp2
                go_roundg (gk - 1)
                case measure => omega
                case rel => exact ⟨R', rfl, by omega, by omega, HD5.out, HRo'.out⟩
              · have hrz' : ¬ (0 : Int) < (r.size : Int) := by omega
                clear hgr HKr
                go_wp2
                first | go_ret2 | (rw [Exit.noGoto_ret]; go_ret2)
                exact ⟨MatchE.of HNo.out, HDX.out⟩
    · have hz' : ¬ (0 : Int) < (q.size : Int) := by omega
      have hql : q.data.toList = [] := List.eq_nil_of_length_eq_zero (by rw [← Lib.size_eq]; omega)
      have HM : Hid (((t.size : Int) == 0) = true ↔ Glob.Mt p.data.toList s.data.toList) := by
        show _ ↔ _
        rw [HK.out.1, hql, beq_iff_eq]
        show _ ↔ _ = _
        rw [Lib.size_eq, ← List.length_eq_zero_iff]
        omega
      clear HK hg
      go_wp2
      go_ret2
      exact ⟨MatchE.of HM.out, HD.out⟩
end Go.Proofs.YtmhffhokfdbbcaaDoor
