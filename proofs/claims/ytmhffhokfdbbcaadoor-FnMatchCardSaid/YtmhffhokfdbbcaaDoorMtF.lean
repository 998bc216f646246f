/- The walk of the reference's fits. -/
import Derived.Test.YtmhffhokfdbbcaaDoorMtG
import Derived.Test.YtmhffhokfdbbcaaDoorMtR
import Derived.Test.YtmhffhokfdbbcaaDoorMtD
import Derived.BigRegion
namespace Go.Proofs.YtmhffhokfdbbcaaDoor
open Go.RowKit Str
set_option linter.unusedVariables false

theorem info_bool : (Tryd.prog.info? 4).map (fun i => (i.zero, i.size, i.bytes)) = some (some (.bool false), 1, 1) := by kernel_rfl

theorem Bits.other {W : World} {g g' o : Nat} {u : List Bool} {x : Value} (h : Bits W g u) (hne : g ≠ g') : Bits (W.setCell ⟨g', o, none⟩ x) g u := by
  intro j b hj
  rw [World.frozen?_setCell, World.cell?_setCell_other _ _ _ _ (fun h => hne (congrArg Addr.block h).symm)]
  exact h j b hj

theorem Bits.made1 (w : World) (n : Nat) (t : TypeId) : Bits (w.alloc (.cells ((madeCells #[.bool false] n).setIfInBounds 0 (.bool true)) t)) w.heap.size ((List.replicate n false).set 0 true) := by
  intro j b hj
  obtain ⟨h1, h2⟩ := List.getElem?_eq_some_iff.1 hj
  have hn : j < n := by simpa using h1
  rw [List.getElem_set] at h2
  constructor
  · unfold World.cell? World.alloc
    by_cases h0 : j = 0
    · subst h0
      rw [if_pos rfl] at h2
      subst h2
      simp [madeCells, hn, Nat.mod_one]
    · rw [if_neg (fun e => h0 e.symm), List.getElem_replicate] at h2
      subst h2
      have h0' : ¬ 0 = j := fun e => h0 e.symm
      simp [madeCells, hn, Nat.mod_one, h0']
  · unfold World.frozen? World.alloc
    simp

/-- what fits hands back -/
def FitsE (p s : List UInt8) (e : Ending) : Prop := ∃ r, e = .returned (.bool r) ∧ (r = true ↔ Glob.Mt p s)

set_option maxRecDepth 100000 in
set_option maxHeartbeats 16000000 in
theorem fits_calls (p s : ByteArray) (w : World) (hps : p.size ≤ 1000) (hss : s.size ≤ 1000) :
    Calls Tryd.prog 11 #[.string p, .string s] w fun e w' => FitsE p.data.toList s.data.toList e ∧ Bl w w' := by
  obtain ⟨n, hn⟩ : ∃ n, n = s.size + 1 := ⟨_, rfl⟩
  have hn' : (s.size : Int) + 1 = (n : Int) := by omega
  have HS := Lib.hid (Lib.size_eq s)
  have HP := Lib.hid (Lib.size_eq p)
  have HMK := Lib.hid (run_make_row' (P := Tryd.prog) 35 4 (.bool false) 1 Tryd.underlying35 info_bool rfl .i64 .i64 n (by omega) (by omega))
  have HAs : Hid (∀ (k : Nat) (hlt : k < s.size) (d : UInt8), s[k]'hlt = d → s.data.toList[k]? = some d) := fun k hlt d hd => byte_at' s k hlt hd
  have HAp : Hid (∀ (k : Nat) (hlt : k < p.size) (d : UInt8), p[k]'hlt = d → p.data.toList[k]? = some d) := fun k hlt d hd => byte_at' p k hlt hd
  have hmk := HMK.out
  have B0 : Hid (Bits (w.alloc (.cells (madeCells #[.bool false] n) 4)) w.heap.size (List.replicate n false)) := Bits.made _ _ _
  have hc0 : (w.alloc (.cells (madeCells #[.bool false] n) 4)).cell? ⟨w.heap.size, 0, none⟩ = some (.bool false) := (B0.out 0 false (by rw [List.getElem?_replicate_of_lt (by omega)])).1
  have hf0 : (w.alloc (.cells (madeCells #[.bool false] n) 4)).frozen? ⟨w.heap.size, 0, none⟩ = false := (B0.out 0 false (by rw [List.getElem?_replicate_of_lt (by omega)])).2
  have h0n : (0 : Int) < (n : Int) := by omega
  have hsn : s.size < n := by omega
  have HN := Lib.hid hn
  clear hn
  go_enter Tryd.func11, Tryd.ntmps11
  go_wp2
  clear hmk hc0 hf0
  go_loopg [5, 17] (p.size + 1) (fun g v5 v17 wr => ∃ (i b : Nat) (u : List Bool), v5 = .slice (some ⟨b, 0, none⟩) n n ∧ v17 = .int .i64 i ∧ p.size < i + g ∧ i ≤ p.size ∧ Hid (b < wr.heap.size ∧ Bl w wr ∧ Bits wr b u ∧ Mt.Row p.data.toList s.data.toList i u))
  case atStart =>
    refine ⟨0, w.heap.size, (List.replicate n false).set 0 true, rfl, rfl, by omega, by omega, ⟨?_, (Bl.refl w).alloc _, Bits.made1 _ _ _, ?_⟩⟩
    · show w.heap.size < (w.heap.push _).size
      rw [Array.size_push]; omega
    · rw [HN.out, HS.out]; exact Mt.Row.start _ _
  case round =>
    clear B0
    obtain ⟨i, b, u, rfl, rfl, hg, hi, HI⟩ := hrel
    rename World => wo
    obtain ⟨G, hG⟩ : ∃ G, G = gk := ⟨_, rfl⟩
    have HG := Lib.hid hG
    rw [← hG] at hg
    clear hG
    by_cases hlt : i < p.size
    · obtain ⟨c, hc⟩ : ∃ c : UInt8, p[i]'hlt = c := ⟨_, rfl⟩
      have hlt' : (i : Int) < (p.size : Int) := by omega
      have HC := Lib.hid (HAp.out i hlt c hc)
      have hmk := HMK.out
      have hc256 := c.toNat_lt
      go_wp2
      clear hmk
      go_loopg [26] (n + 1) (fun g v26 wi => ∃ (k : Nat) (v : List Bool), v26 = .int .i64 k ∧ n < k + g ∧ k ≤ n ∧ Hid (Mt.Up p.data.toList s.data.toList i k v ∧ Bits wi wo.heap.size v ∧ wo.heap.size < wi.heap.size ∧ Bl wo wi))
      case atStart =>
        refine ⟨0, List.replicate n false, rfl, by omega, by omega, ⟨?_, Bits.made _ _ _, ?_, (Bl.refl wo).alloc _⟩⟩
        · rw [HN.out, HS.out]; exact Mt.Up.start _ _ _
        · show wo.heap.size < (wo.heap.push _).size
          rw [Array.size_push]; omega
      case round =>
        obtain ⟨k, v, rfl, hgk, hk, HK⟩ := hrel
        rename World => wi
        by_cases hkn : k < n
        · have hkn' : (k : Int) < (n : Int) := by omega
          have HSET : Hid (∀ w', Drew wi w' → ∀ val : Bool, (val = true ↔ Glob.Mt (p.data.toList.take (i + 1)) (s.data.toList.take k)) → Mt.Up p.data.toList s.data.toList i (k + 1) (v.set k val) ∧ Bits (w'.setCell ⟨wo.heap.size, k, none⟩ (.bool val)) wo.heap.size (v.set k val) ∧ wo.heap.size < (w'.setCell ⟨wo.heap.size, k, none⟩ (.bool val)).heap.size ∧ Bl wo (w'.setCell ⟨wo.heap.size, k, none⟩ (.bool val))) := by
            rintro w' ⟨m, rfl⟩ val hv
            refine ⟨HK.out.1.put (by rw [← HS.out]; omega) hv, (HK.out.2.1 : Bits (wi.drewN m) wo.heap.size v).set val (by rw [HK.out.1.1, ← HS.out, ← HN.out]; exact hkn), ?_, (HK.out.2.2.2.drewN m).setCell (Nat.le_refl _) _⟩
            show wo.heap.size < (wi.heap.modify _ _).size
            rw [Array.size_modify]; exact HK.out.2.2.1
          have hul : u.length = n := by rw [HI.out.2.2.2.1, ← HS.out, ← HN.out]
          have hvl : v.length = n := by rw [HK.out.1.1, ← HS.out, ← HN.out]
          obtain ⟨x, hx⟩ : ∃ x, u[k]? = some x := ⟨_, List.getElem?_eq_getElem (by omega)⟩
          obtain ⟨q, hq⟩ : ∃ q, v[k]? = some q := ⟨_, List.getElem?_eq_getElem (by omega)⟩
          have HBu : Hid (Bits wi b u) := HI.out.2.2.1.keep HI.out.1 HK.out.2.2.2
          have hcx : wi.cell? ⟨b, k, none⟩ = some (.bool x) := (HBu.out k x hx).1
          have hcq : wi.cell? ⟨wo.heap.size, k, none⟩ = some (.bool q) := (HK.out.2.1 k q hq).1
          have hfq : wi.frozen? ⟨wo.heap.size, k, none⟩ = false := (HK.out.2.1 k q hq).2
          have HX : Hid (x = true ↔ Glob.Mt (p.data.toList.take i) (s.data.toList.take k)) := HI.out.2.2.2.2 k x hx
          by_cases hk0 : k = 0
          · subst hk0
            by_cases hc42 : c = 42
            · subst hc42
              have HV : Hid (x = true ↔ Glob.Mt (p.data.toList.take (i + 1)) (s.data.toList.take 0)) := by
                show _ ↔ _
                rw [HX.out, Mt.star_zero HC.out]
              have HF := Lib.hid (HSET.out wi (Drew.refl _) x HV.out)
              clear HV HSET HX HBu hx hq hul hvl HK HI
              cases x with
              | true =>
                go_wp2
                go_roundg (gk - 1)
                case measure => omega
                case rel => exact ⟨1, v.set 0 true, rfl, by omega, by omega, HF.out⟩
              | false =>
                go_wp2
                go_roundg (gk - 1)
                case measure => omega
                case rel => exact ⟨1, v.set 0 false, rfl, by omega, by omega, HF.out⟩
            · have e42 : ((c.toNat : Int) == 42) = false := ne_nat hc42
              have HF : Hid (Mt.Up p.data.toList s.data.toList i 1 v ∧ Bits wi wo.heap.size v ∧ wo.heap.size < wi.heap.size ∧ Bl wo wi) :=
                ⟨HK.out.1.pass (Mt.sign_zero HC.out hc42), HK.out.2⟩
              clear HSET HX HBu hx hq hul hvl HK HI
              go_wp2
              go_roundg (gk - 1)
              case measure => omega
              case rel => exact ⟨1, v, rfl, by omega, by omega, HF.out⟩
          · have hk0' : (0 : Int) < (k : Int) := by omega
            have ka : ((k : Int) - 1).toNat = k - 1 := by omega
            have kb : (0 : Int) ≤ (k : Int) - 1 := by omega
            have kc : (k : Int) - 1 < (n : Int) := by omega
            have kd : (k : Int) - 1 < (s.size : Int) := by omega
            have ks : k - 1 < s.size := by omega
            obtain ⟨d, hd⟩ : ∃ d : UInt8, s[k - 1]'ks = d := ⟨_, rfl⟩
            have hd256 := d.toNat_lt
            have HDs := Lib.hid (HAs.out (k - 1) ks d hd)
            have hkk : k - 1 + 1 = k := by omega
            obtain ⟨y, hy⟩ : ∃ y, v[k - 1]? = some y := ⟨_, List.getElem?_eq_getElem (by omega)⟩
            obtain ⟨z, hz⟩ : ∃ z, u[k - 1]? = some z := ⟨_, List.getElem?_eq_getElem (by omega)⟩
            have hcy : wi.cell? ⟨wo.heap.size, k - 1, none⟩ = some (.bool y) := (HK.out.2.1 (k - 1) y hy).1
            have hcz : wi.cell? ⟨b, k - 1, none⟩ = some (.bool z) := (HBu.out (k - 1) z hz).1
            have HY : Hid (y = true ↔ Glob.Mt (p.data.toList.take (i + 1)) (s.data.toList.take (k - 1))) := HK.out.1.2.1 (k - 1) y (by omega) hy
            have HZ : Hid (z = true ↔ Glob.Mt (p.data.toList.take i) (s.data.toList.take (k - 1))) := HI.out.2.2.2.2 (k - 1) z hz
            by_cases hc42 : c = 42
            · subst hc42
              have HV : Hid (∀ val : Bool, (val = true ↔ (x = true ∨ (d ≠ 47 ∧ y = true))) → (val = true ↔ Glob.Mt (p.data.toList.take (i + 1)) (s.data.toList.take k))) := by
                intro val hv
                have := Mt.star_next HC.out HDs.out
                rw [hkk] at this
                rw [hv, this, HX.out, HY.out]
              have HFS : Hid (∀ val : Bool, (val = true ↔ (x = true ∨ (d ≠ 47 ∧ y = true))) → _) := fun val hv => HSET.out wi (Drew.refl _) val (HV.out val hv)
              clear HV HSET HX HY HZ HBu hx hq hy hz hcz hul hvl HK HI hkk hk0
              cases x with
              | true =>
                have HF := Lib.hid (HFS.out true (by simp))
                clear HFS hcy
                go_wp2
                go_roundg (gk - 1)
                case measure => omega
                case rel => exact ⟨k + 1, v.set k true, by go_num, by omega, by omega, HF.out⟩
              | false =>
                cases y with
                | false =>
                  have HF := Lib.hid (HFS.out false (by simp))
                  clear HFS
                  go_wp2
                  go_roundg (gk - 1)
                  case measure => omega
                  case rel => exact ⟨k + 1, v.set k false, by go_num, by omega, by omega, HF.out⟩
                | true =>
                  by_cases h47 : d = 47
                  · subst h47
                    have HF := Lib.hid (HFS.out false (by simp))
                    clear HFS
                    go_wp2
                    go_roundg (gk - 1)
                    case measure => omega
                    case rel => exact ⟨k + 1, v.set k false, by go_num, by omega, by omega, HF.out⟩
                  · have e47 : ((d.toNat : Int) == 47) = false := ne_nat h47
                    have n47 : ((d.toNat : Int) != 47) = true := by rw [bne, e47]; rfl
                    have HF := Lib.hid (HFS.out true (by simp [h47]))
                    clear HFS h47
                    go_wp2
                    go_roundg (gk - 1)
                    case measure => omega
                    case rel => exact ⟨k + 1, v.set k true, by go_num, by omega, by omega, HF.out⟩
            · have e42 : ((c.toNat : Int) == 42) = false := ne_nat hc42
              have HV : Hid (∀ val : Bool, (val = true ↔ (z = true ∧ Glob.ok c d = true)) → (val = true ↔ Glob.Mt (p.data.toList.take (i + 1)) (s.data.toList.take k))) := by
                intro val hv
                have := Mt.sign_next HC.out hc42 HDs.out
                rw [hkk] at this
                rw [hv, this, HZ.out]
              have HFS : Hid (∀ val : Bool, (val = true ↔ (z = true ∧ Glob.ok c d = true)) → ∀ w', Drew wi w' → _) := fun val hv w' hw' => HSET.out w' hw' val (HV.out val hv)
              clear HV HSET HX HY HZ HBu hx hq hy hz hcy hcx hul hvl HK HI hkk hk0 hc42
              cases z with
              | false =>
                have HF := Lib.hid (HFS.out false (by simp))
                clear HFS
                go_wp2
                go_big_region
                all_goals
                  go_wp2
                  go_roundg (gk - 1)
                  case measure => omega
                  case rel => exact ⟨k + 1, v.set k false, by go_num, by omega, by omega, HF.out _ ⟨_, rfl⟩⟩
              | true =>
                by_cases hcd : c = d
                · subst hcd
                  have HF := Lib.hid (HFS.out true (by simp [Glob.ok]))
                  have ecc : ((c.toNat : Int) == (c.toNat : Int)) = true := beq_self_eq_true _
                  clear HFS
                  go_wp2
                  go_big_region
                  all_goals
                    go_wp2
                    go_roundg (gk - 1)
                    case measure => omega
                    case rel => exact ⟨k + 1, v.set k true, by go_num, by omega, by omega, HF.out _ ⟨_, rfl⟩⟩
                · have ecd : ((c.toNat : Int) == (d.toNat : Int)) = false := ne_nat hcd
                  by_cases h63 : c = 63
                  · subst h63
                    by_cases h47 : d = 47
                    · subst h47
                      have HF := Lib.hid (HFS.out false (by simp [Glob.ok]))
                      clear HFS hcd
                      go_wp2
                      go_big_region
                      all_goals
                        go_wp2
                        go_roundg (gk - 1)
                        case measure => omega
                        case rel => exact ⟨k + 1, v.set k false, by go_num, by omega, by omega, HF.out _ ⟨_, rfl⟩⟩
                    · have e47 : ((d.toNat : Int) == 47) = false := ne_nat h47
                      have n47 : ((d.toNat : Int) != 47) = true := by rw [bne, e47]; rfl
                      have e63 : ((63 : Int) == (d.toNat : Int)) = false := ne_nat (c := 63) hcd
                      have HF := Lib.hid (HFS.out true (by simp [Glob.ok, h47]))
                      clear HFS hcd h47
                      go_wp2
                      go_big_region
                      all_goals
                        go_wp2
                        go_roundg (gk - 1)
                        case measure => omega
                        case rel => exact ⟨k + 1, v.set k true, by go_num, by omega, by omega, HF.out _ ⟨_, rfl⟩⟩
                  · have e63 : ((c.toNat : Int) == 63) = false := ne_nat h63
                    have HF := Lib.hid (HFS.out false (by simp [Glob.ok, hcd, h63]))
                    clear HFS hcd h63
                    go_wp2
                    go_big_region
                    all_goals
                      go_wp2
                      go_roundg (gk - 1)
                      case measure => omega
                      case rel => exact ⟨k + 1, v.set k false, by go_num, by omega, by omega, HF.out _ ⟨_, rfl⟩⟩
        · have hkn' : ¬ (k : Int) < (n : Int) := by omega
          have HF : Hid (wo.heap.size < wi.heap.size ∧ Bl w wi ∧ Bits wi wo.heap.size v ∧ Mt.Row p.data.toList s.data.toList (i + 1) v) :=
            ⟨HK.out.2.2.1, HI.out.2.1.trans HK.out.2.2.2, HK.out.2.1, HK.out.1.full (by rw [← HS.out]; omega)⟩
          clear HK HI hgk
          go_wp2
          go_roundg (G - 1)
          case measure => have := HG.out; omega
          case rel => exact ⟨i + 1, wo.heap.size, v, rfl, by go_num, by have := HG.out; omega, by omega, HF.out⟩
    · have hlt' : ¬ (i : Int) < (p.size : Int) := by omega
      obtain rfl : i = p.size := by omega
      have hul : u.length = n := by rw [HI.out.2.2.2.1, ← HS.out, ← HN.out]
      obtain ⟨r, hr⟩ : ∃ r, u[s.size]? = some r := ⟨_, List.getElem?_eq_getElem (by omega)⟩
      have hcr : wo.cell? ⟨b, s.size, none⟩ = some (.bool r) := (HI.out.2.2.1 s.size r hr).1
      have hsn' : (s.size : Int) < (n : Int) := by omega
      have HF : Hid (FitsE p.data.toList s.data.toList (.returned (.bool r))) := by
        refine ⟨r, rfl, ?_⟩
        have h := HI.out.2.2.2
        rw [HP.out] at h
        rw [HS.out] at hr
        exact h.last hr
      have HB := Lib.hid HI.out.2.1
      clear HI hg hul hr
      go_wp2
      go_ret
      exact ⟨HF.out, HB.out⟩
end Go.Proofs.YtmhffhokfdbbcaaDoor
