/- The walk of path.matchChunk over a piece without stars. -/
import Derived.Test.YtmhffhokfdbbcaaDoorMtA
import Derived.Test.YtmhffhokfdbbcaaDoorGlob
import Derived.Deep.QuietTactic
import Derived.BigQuiet
namespace Go.Proofs.YtmhffhokfdbbcaaDoor
open Go.RowKit Str
set_option linter.unusedVariables false

theorem okc_no' {d : UInt8} (h : okc d.toNat = true) : ((d.toNat : Int) == 92) = false ∧ ((d.toNat : Int) == 91) = false ∧ d.toNat < 128 := by
  have k : ∀ n : Fin 256, okc n.val = true → n.val ≠ 92 ∧ n.val ≠ 91 ∧ n.val < 128 := by decide +kernel
  obtain ⟨h1, h2, h3⟩ := k ⟨d.toNat, d.toNat_lt⟩ h
  have g1 : d.toNat ≠ 92 := h1
  have g2 : d.toNat ≠ 91 := h2
  exact ⟨beq_eq_false_iff_ne.2 (by omega), beq_eq_false_iff_ne.2 (by omega), h3⟩

set_option maxRecDepth 100000 in
theorem decodeRune_calls (s : ByteArray) (d : UInt8) (hz : 0 < s.size) (hd : s[0]'hz = d) (h128 : d.toNat < 128) (w : World) :
    Calls Tryd.prog 22 #[.string s] w fun e w' => e = .returned (.tuple #[.int .i32 d.toNat, .int .i64 1]) ∧ w = w' := by
  have hz' : (0 : Int) < (s.size : Int) := by omega
  have hne : (s.toList == []) = false := by
    rw [Lib.toList_data, beq_eq_false_iff_ne]
    intro h
    have h2 : s.data.toList.length = 0 := by rw [h]; rfl
    rw [← Lib.size_eq] at h2
    omega
  go_enter Tryd.func22, Tryd.ntmps22
  go_wp2
  go_ret2
  exact ⟨rfl, rfl⟩

/-- what matchChunk hands back -/
def ChunkE (c s : List UInt8) (e : Ending) : Prop :=
  (Glob.fits c s = false ∧ e = .returned (.tuple #[.string ⟨#[]⟩, .bool false, .nilIface])) ∨
  (Glob.fits c s = true ∧ e = .returned (.tuple #[.string (B (s.drop c.length)), .bool true, .nilIface]))

theorem head_of {s : ByteArray} {d : UInt8} (hz : 0 < s.size) (hd : s[0]'hz = d) : s.data.toList = d :: (s.extract 1 s.size).data.toList := by
  have h0 : 0 < s.data.toList.length := by rw [← Lib.size_eq]; exact hz
  have := List.drop_eq_getElem_cons h0
  rw [List.drop_zero] at this
  have hdd : s.data.toList[0] = d := Option.some.inj ((List.getElem?_eq_getElem h0).symm.trans (byte_at' s 0 hz hd))
  rw [hdd] at this
  rw [Lib.extract_to_end]; exact this
theorem tail_size' {s : ByteArray} (hz : 0 < s.size) : (s.extract 1 s.size).size + 1 = s.size := by
  rw [Lib.size_eq, Lib.extract_to_end, List.length_drop, ← Lib.size_eq]; omega

set_option maxRecDepth 100000 in
set_option maxHeartbeats 8000000 in
theorem matchChunk_calls (c s : ByteArray) (hc : ∀ x ∈ c.data.toList, okc x.toNat = true) (hs : ∀ x ∈ s.data.toList, x.toNat < 128) (w : World) (hcs : c.size ≤ 1000) (hss : s.size ≤ 1000) :
    Calls Tryd.prog 20 #[.string c, .string s] w fun e w' => ChunkE c.data.toList s.data.toList e ∧ Drew w w' := by
  have HC := Lib.hid hc
  have HS := Lib.hid hs
  clear hc hs
  go_enter Tryd.func20, Tryd.ntmps20
  go_wp2
  go_loopg [0, 1, 7] (c.size + 1) (fun g v0 v1 v7 wr => ∃ (p t : ByteArray) (f : Bool), v0 = .string p ∧ v1 = .string t ∧ v7 = .bool f ∧ p.size < g ∧ p.size ≤ c.size ∧ t.size ≤ s.size ∧ Drew w wr ∧ Hid (Glob.fits c.data.toList s.data.toList = (!f && Glob.fits p.data.toList t.data.toList) ∧ (f = false → t.data.toList.drop p.data.toList.length = s.data.toList.drop c.data.toList.length) ∧ (∀ x ∈ p.data.toList, okc x.toNat = true) ∧ (∀ x ∈ t.data.toList, x.toNat < 128)))
  case atStart => exact ⟨c, s, false, rfl, rfl, rfl, by omega, Nat.le_refl _, Nat.le_refl _, Drew.refl _, ⟨rfl, fun _ => rfl, HC.out, HS.out⟩⟩
  case round =>
    obtain ⟨p, t, f, rfl, rfl, rfl, hg, hp, ht, hdr, HK⟩ := hrel
    have HD := Lib.hid hdr
    clear hdr
    by_cases hz : 0 < p.size
    · obtain ⟨x, hx⟩ : ∃ x : UInt8, p[0]'hz = x := ⟨_, rfl⟩
      have hz' : (0 : Int) < (p.size : Int) := by omega
      have hpl := head_of hz hx
      have hps := tail_size' hz
      obtain ⟨p', hp'⟩ : ∃ p', p.extract 1 p.size = p' := ⟨_, rfl⟩
      rw [hp'] at hpl hps
      have hxo : okc x.toNat = true := HK.out.2.2.1 x (by rw [hpl]; exact List.mem_cons_self)
      obtain ⟨n1, n2, n3⟩ := okc_no' hxo
      have HP : Hid (∀ y ∈ p'.data.toList, okc y.toNat = true) := fun y hy => HK.out.2.2.1 y (by rw [hpl]; exact List.mem_cons_of_mem _ hy)
      have HPL := Lib.hid hpl
      clear hpl hxo
      by_cases hf : f = true ∨ t.size = 0
      · have HF : Hid (Glob.fits c.data.toList s.data.toList = (!true && Glob.fits p'.data.toList t.data.toList)) := by
          show _ = _
          rcases hf with rfl | h
          · exact HK.out.1
          · have htl : t.data.toList = [] := List.eq_nil_of_length_eq_zero (by rw [← Lib.size_eq]; exact h)
            rw [HK.out.1, HPL.out, htl]
            cases f <;> rfl
        have HT := Lib.hid HK.out.2.2.2
        clear HK
        by_cases h63 : x = 63
        · subst h63
          cases f with
          | true =>
            clear hf
            go_wp2
            go_roundg (gk - 1)
            case measure => omega
            case rel => exact ⟨p', t, true, rfl, rfl, rfl, by omega, by omega, by omega, HD.out, ⟨HF.out, fun h => (by cases h), HP.out, HT.out⟩⟩
          | false =>
            have h0 : ((t.size : Int) == 0) = true := beq_iff_eq.2 (by rcases hf with h | h; cases h; omega)
            clear hf
            go_wp2
            go_roundg (gk - 1)
            case measure => omega
            case rel => exact ⟨p', t, true, rfl, rfl, rfl, by omega, by omega, by omega, HD.out, ⟨HF.out, fun h => (by cases h), HP.out, HT.out⟩⟩
        · have e63 : ((x.toNat : Int) == 63) = false := ne_nat h63
          cases f with
          | true =>
            clear hf
            go_wp2
            go_roundg (gk - 1)
            case measure => omega
            case rel => exact ⟨p', t, true, rfl, rfl, rfl, by omega, by omega, by omega, HD.out, ⟨HF.out, fun h => (by cases h), HP.out, HT.out⟩⟩
          | false =>
            have h0 : ((t.size : Int) == 0) = true := beq_iff_eq.2 (by rcases hf with h | h; cases h; omega)
            clear hf
            go_wp2
            go_roundg (gk - 1)
            case measure => omega
            case rel => exact ⟨p', t, true, rfl, rfl, rfl, by omega, by omega, by omega, HD.out, ⟨HF.out, fun h => (by cases h), HP.out, HT.out⟩⟩
      · obtain rfl : f = false := by cases f; rfl; exact absurd (.inl rfl) hf
        have htz : 0 < t.size := by
          by_cases h : t.size = 0
          · exact absurd (.inr h) hf
          · omega
        have htz' : (0 : Int) < (t.size : Int) := by omega
        have h0 : ((t.size : Int) == 0) = false := beq_eq_false_iff_ne.2 (by omega)
        obtain ⟨y, hy⟩ : ∃ y : UInt8, t[0]'htz = y := ⟨_, rfl⟩
        have htl := head_of htz hy
        have hts := tail_size' htz
        have ht1 : (1 : Int) ≤ (t.size : Int) := by omega
        obtain ⟨t', ht'⟩ : ∃ t', t.extract 1 t.size = t' := ⟨_, rfl⟩
        rw [ht'] at htl hts
        have hy128 : y.toNat < 128 := HK.out.2.2.2 y (by rw [htl]; exact List.mem_cons_self)
        have HT : Hid (∀ z ∈ t'.data.toList, z.toNat < 128) := fun z hz => HK.out.2.2.2 z (by rw [htl]; exact List.mem_cons_of_mem _ hz)
        have HF : Hid (Glob.fits c.data.toList s.data.toList = (!(!Glob.ok x y) && Glob.fits p'.data.toList t'.data.toList)) := by
          show _ = _
          rw [HK.out.1, HPL.out, htl, Bool.not_not]; rfl
        have HR : Hid (t'.data.toList.drop p'.data.toList.length = s.data.toList.drop c.data.toList.length) := by
          have := HK.out.2.1 rfl
          rw [HPL.out, htl] at this
          exact this
        have CD := Lib.hid fun w => decodeRune_calls t y htz hy hy128 w
        clear HK hf htl HPL
        by_cases h63 : x = 63
        · subst h63
          by_cases h47 : y = 47
          · subst h47
            have e : Glob.ok 63 47 = false := by decide
            rw [e] at HF
            go_wp2_with fail
            refine (CD.out _).mono ?_
            rintro e w' ⟨rfl, rfl⟩
            go_wp2
            go_roundg (gk - 1)
            case measure => omega
            case rel => exact ⟨p', t', true, rfl, rfl, rfl, by omega, by omega, by omega, HD.out, ⟨HF.out, fun h => (by cases h), HP.out, HT.out⟩⟩
          · have e47 : ((y.toNat : Int) == 47) = false := ne_nat h47
            have e : Glob.ok 63 y = true := by unfold Glob.ok; simp [h47]
            rw [e] at HF
            go_wp2_with fail
            refine (CD.out _).mono ?_
            rintro e w' ⟨rfl, rfl⟩
            go_wp2
            go_roundg (gk - 1)
            case measure => omega
            case rel => exact ⟨p', t', false, rfl, rfl, rfl, by omega, by omega, by omega, HD.out, ⟨HF.out, fun _ => HR.out, HP.out, HT.out⟩⟩
        · have e63 : ((x.toNat : Int) == 63) = false := ne_nat h63
          have eo : Glob.ok x y = (x == y) := by
            unfold Glob.ok
            rw [show (x == 63) = false from beq_eq_false_iff_ne.2 h63]; simp
          rw [eo] at HF
          clear CD eo
          by_cases hxy : x = y
          · subst hxy
            rw [beq_self_eq_true] at HF
            have exx : ((x.toNat : Int) == (x.toNat : Int)) = true := beq_self_eq_true _
            go_wp2
            go_quiet (fail)
            go_wp2
            go_roundg (gk - 1)
            case measure => omega
            case rel => exact ⟨p', t', false, rfl, rfl, by first | rfl | simp, by omega, by omega, by omega, HD.out.drewN _, ⟨HF.out, fun _ => HR.out, HP.out, HT.out⟩⟩
          · have exy : ((x.toNat : Int) == (y.toNat : Int)) = false := beq_eq_false_iff_ne.2 (fun h => hxy (UInt8.toNat_inj.1 (by omega)))
            rw [show (x == y) = false from beq_eq_false_iff_ne.2 hxy] at HF
            have HNE : Hid (¬ x.toNat = y.toNat) := fun h => hxy (UInt8.toNat_inj.1 h)
            go_wp2
            go_quiet (fail)
            go_wp2
            go_roundg (gk - 1)
            case measure => omega
            case rel => exact ⟨p', t', true, rfl, rfl, by first | rfl | (have := HNE.out; simp; omega), by omega, by omega, by omega, HD.out.drewN _, ⟨HF.out, fun h => (by cases h), HP.out, HT.out⟩⟩
    · have hz' : ¬ (0 : Int) < (p.size : Int) := by omega
      have hpl : p.data.toList = [] := List.eq_nil_of_length_eq_zero (by rw [← Lib.size_eq]; omega)
      cases f with
      | true =>
        have HR : Hid (ChunkE c.data.toList s.data.toList (.returned (.tuple #[.string ⟨#[]⟩, .bool false, .nilIface]))) := .inl ⟨HK.out.1, rfl⟩
        clear HK hg
        go_wp2
        go_ret3
        exact ⟨HR.out, HD.out⟩
      | false =>
        have HR : Hid (ChunkE c.data.toList s.data.toList (.returned (.tuple #[.string t, .bool true, .nilIface]))) := by
          refine .inr ⟨by rw [HK.out.1, hpl]; rfl, ?_⟩
          have := HK.out.2.1 rfl
          rw [hpl] at this
          have h2 : t.data.toList = s.data.toList.drop c.data.toList.length := this
          rw [← h2, B_of]
        clear HK hg hpl
        go_wp2
        go_ret3
        exact ⟨HR.out, HD.out⟩
end Go.Proofs.YtmhffhokfdbbcaaDoor
