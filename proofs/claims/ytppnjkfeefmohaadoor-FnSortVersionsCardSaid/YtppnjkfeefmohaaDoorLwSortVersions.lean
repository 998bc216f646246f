/- A sorted list has the versions in their order, equal ones in that of their bytes, and nothing is lost: the walk of the law FnSortVersions. -/
import Derived.Test.YtppnjkfeefmohaaDoorLwAlive
import Derived.Test.YtppnjkfeefmohaaDoorSpF
import Derived.Test.YtppnjkfeefmohaaDoorSvK
namespace Go.Proofs.YtppnjkfeefmohaaDoor
open Go.RowKit Str
set_option linter.unusedVariables false

theorem info_bool : (Tryd.prog.info? 4).map (fun i => (i.zero, i.size, i.bytes)) = some (some (.bool false), 1, 1) := by kernel_rfl

theorem zzFits3_calls (ga : Option Addr) (b off n c : Nat) (L : List (List UInt8)) (hL : L.length = n) (hga : 0 < n → ga = some ⟨b, off, none⟩) (w : World) (hlie : Lie w b off L) (hn : n ≤ maxLen) :
    Calls Tryd.prog 10 #[.slice ga n c] w fun e w' => (∃ r, e = .returned (.bool r)) ∧ w = w' := by
  have hn' : n ≤ 9223372036854775807 := by unfold maxLen at hn; omega
  have LIE := Lib.hid hlie
  clear hlie hn
  by_cases h1 : 2147483647 < n
  · have h1' : (2147483647 : Int) < n := by omega
    go_enter Tryd.func10, Tryd.ntmps10
    go_wp2
    go_ret
    exact ⟨by first | exact ⟨_, rfl⟩ | exact .inl rfl | exact .inr rfl, rfl⟩
  have h1' : ¬ (2147483647 : Int) < n := by omega
  go_enter Tryd.func10, Tryd.ntmps10
  go_wp2
  go_loopg [10] (n + 1) (fun g v10 wr => ∃ k : Nat, v10 = .int .i64 k ∧ n < k + g ∧ k ≤ n ∧ w = wr)
  case atStart => exact ⟨0, rfl, by omega, by omega, rfl⟩
  case round =>
    obtain ⟨k, rfl, hg, hk, rfl⟩ := hrel
    by_cases hlt : k < n
    · obtain rfl := hga (by omega)
      obtain ⟨x, hx⟩ : ∃ x, L[k]? = some x := ⟨_, List.getElem?_eq_getElem (by omega)⟩
      have hcell : w.cell? ⟨b, off + k, none⟩ = some (.string (B x)) := LIE.out.2 k x hx
      have hlt' : (k : Int) < (n : Int) := by omega
      generalize B x = X at *
      clear hx LIE
      by_cases hb : 2147483647 < X.size
      · clear hg
        go_wp2
        go_ret
        exact ⟨by first | exact ⟨_, rfl⟩ | exact .inl rfl | exact .inr rfl, rfl⟩
      · go_wp2
        go_roundg (gk - 1)
        case measure => omega
        case rel => exact ⟨k + 1, by go_num, by omega, by omega, rfl⟩
    · have hlt' : ¬ (k : Int) < (n : Int) := by omega
      clear hg
      go_wp2
      go_ret
      exact ⟨by first | exact ⟨_, rfl⟩ | exact .inl rfl | exact .inr rfl, rfl⟩

set_option maxRecDepth 100000 in
set_option maxHeartbeats 16000000 in
theorem law_FnSortVersions (ga : Option Addr) (b off n c : Nat) (Xs : List ByteArray) (w : World) (hw : Bad w) (hXl : Xs.length = n) (hga : 0 < n → ga = some ⟨b, off, none⟩ ∧ b < w.heap.size) (hXc : ∀ j X, Xs[j]? = some X → w.cell? ⟨b, off + j, none⟩ = some (.string X)) (hXm : n ≤ maxLen) :
    Calls Tryd.prog 4 #[.slice ga n c] w fun e w' => e = .returned (.bool true) ∧ Below w.heap.size w w' := by
  obtain ⟨L, hL, hlie, hgb⟩ : ∃ L : List (List UInt8), L.length = n ∧ Lie w b off L ∧ (0 < n → ga = some ⟨b, off, none⟩) := by
    refine ⟨Xs.map (·.data.toList), by simp [hXl], ⟨fun hne => (hga ?_).2, fun j X hj => ?_⟩, fun h => (hga h).1⟩
    · cases Xs with
      | nil => exact absurd rfl hne
      | cons a l => rw [← hXl]; simp
    · rw [List.getElem?_map] at hj
      obtain ⟨Z, hZ, rfl⟩ := Option.map_eq_some_iff.1 hj
      rw [hXc j Z hZ, B_of]
  have CZ := Lib.hid fun w (hl : Lie w b off L) => zzFits3_calls ga b off n c L hL hgb w hl hXm
  have HB := Lib.hid hw
  have LIE := Lib.hid hlie
  have CA : Hid (∀ w, Bad w → Calls Tryd.prog 9 #[] w fun e w' => e = .returned (.bool true) ∧ Gr w w') := fun w hw => alive_calls w hw
  clear hw hlie hXc hga hXl Xs
  go_enter Tryd.func4, Tryd.ntmps4
  go_wp2_with fail
  refine (CZ.out _ LIE.out).mono ?_
  rintro e w' ⟨⟨r, rfl⟩, rfl⟩
  clear CZ
  cases r with
  | false =>
    go_wp2
    go_ret
    exact ⟨rfl, Below.refl _ _⟩
  | true =>
    by_cases h30 : 30 < n
    · have h30' : (30 : Int) < n := by omega
      go_wp2
      go_ret
      exact ⟨rfl, Below.refl _ _⟩
    have h30' : ¬ (30 : Int) < n := by omega
    clear hXm
    go_wp2
    go_loopg [21] (n + 1) (fun g v21 wr => ∃ k : Nat, v21 = .int .i64 k ∧ n < k + g ∧ k ≤ n ∧ w = wr ∧ Hid (∀ j x, j < k → L[j]? = some x → x.length ≤ 200))
    case atStart => exact ⟨0, rfl, by omega, by omega, rfl, fun j x h => absurd h (by omega)⟩
    case round =>
      obtain ⟨k, rfl, hg, hk, rfl, HK⟩ := hrel
      by_cases hlt : k < n
      · obtain rfl := hgb (by omega)
        obtain ⟨x, hx⟩ : ∃ x, L[k]? = some x := ⟨_, List.getElem?_eq_getElem (by omega)⟩
        have hcell : w.cell? ⟨b, off + k, none⟩ = some (.string (B x)) := LIE.out.2 k x hx
        have hlt' : (k : Int) < (n : Int) := by omega
        have hxs := B_size x
        by_cases h200 : 200 < x.length
        · have h2 : 200 < (B x).size := by omega
          clear hxs
          generalize B x = X at *
          clear hg HK
          go_wp2
          go_ret
          exact ⟨rfl, Below.refl _ _⟩
        · have h2 : ¬ 200 < (B x).size := by omega
          have HN : Hid (∀ j y, j < k + 1 → L[j]? = some y → y.length ≤ 200) := fun j y hj hy => by
            by_cases e : j = k
            · subst e; rw [hx] at hy; cases hy; omega
            · exact HK.out j y (by omega) hy
          clear hxs HK hx
          generalize B x = X at *
          go_wp2
          go_roundg (gk - 1)
          case measure => omega
          case rel => exact ⟨k + 1, by go_num, by omega, by omega, rfl, HN⟩
      · have hlt' : ¬ (k : Int) < (n : Int) := by omega
        have C1 := Lib.hid (iSortVersions_calls ga b off n c L hL hgb w LIE.out (by omega) (fun x hx => by
          obtain ⟨j, hj, rfl⟩ := List.getElem_of_mem hx
          have := HK.out j _ (by omega) (List.getElem?_eq_getElem hj)
          omega))
        have ALL : Hid (∀ x ∈ L, x.length ≤ 200) := fun x hx => by
          obtain ⟨j, hj, rfl⟩ := List.getElem_of_mem hx
          exact HK.out j _ (by omega) (List.getElem?_eq_getElem hj)
        clear hg HK
        go_wp2_with fail
        refine C1.out.mono ?_
        rintro e w2 ⟨⟨gb2, g, cap, out, rfl, ho, hgo, hlo, hperm, hadj⟩, bel⟩
        have BEL : Hid (Bl w w2) := bel
        have LO := Lib.hid hlo
        have PERM := Lib.hid hperm
        have ADJ := Lib.hid hadj
        have L2 := Lib.hid (LIE.out.keep bel)
        have HB2 := Lib.hid (HB.out.keepB bel)
        have hmk := run_make_row' (P := Tryd.prog) 25 4 (.bool false) 1 Tryd.underlying25 info_bool rfl .i64 .i64 n (by omega) (by omega)
        clear hlo hperm hadj bel C1 LIE HB hlt hlt' hk
        go_wp2
        clear hmk
        go_loopg [41] (n + 1) (fun g v41 wr => ∃ (k : Nat) (u : List Bool), v41 = .int .i64 k ∧ n < k + g ∧ k ≤ n ∧ Hid (u.length = n ∧ Bits wr w2.heap.size u ∧ w2.heap.size < wr.heap.size ∧ (Srt.left L u).Perm (out.drop k) ∧ Bl w2 wr))
        case atStart =>
          refine ⟨0, List.replicate n false, rfl, by omega, by omega, ⟨by simp, Bits.made _ _ _, ?_, ?_, (Bl.refl _).alloc _⟩⟩
          · show w2.heap.size < (w2.heap.push _).size
            rw [Array.size_push]; omega
          · rw [← hL, Srt.left_all, List.drop_zero]; exact PERM.out.symm
        case round =>
          obtain ⟨k, u, rfl, hg, hk, HI⟩ := hrel
          rename World => wr
          obtain ⟨G, hG⟩ : ∃ G, G = gk := ⟨_, rfl⟩
          have HG := Lib.hid hG
          rw [← hG] at hg
          clear hG
          by_cases hlt : k < n
          · obtain rfl := hgb (by omega)
            obtain rfl := hgo (by omega)
            obtain ⟨x, hx⟩ : ∃ x, out[k]? = some x := ⟨_, List.getElem?_eq_getElem (by omega)⟩
            have hcx : wr.cell? ⟨g, k, none⟩ = some (.string (B x)) := by
              have := (LO.out.keep HI.out.2.2.2.2).2 k x hx
              rwa [Nat.zero_add] at this
            have hlt' : (k : Int) < (n : Int) := by omega
            go_wp2
            go_loopg [9, 48] (n + 1) (fun g v9 v48 wi => ∃ (j : Nat) (f : Bool) (v : List Bool), v9 = .bool f ∧ v48 = .int .i64 j ∧ n < j + g ∧ j ≤ n ∧ Hid (Srt.At x L u j f v ∧ Bits wi w2.heap.size v ∧ w2.heap.size < wi.heap.size ∧ Bl w2 wi))
            case atStart => exact ⟨0, false, u, rfl, rfl, by omega, by omega, ⟨Srt.At.start x L u, HI.out.2.1, HI.out.2.2.1, HI.out.2.2.2.2⟩⟩
            case round =>
              obtain ⟨j, f, v, rfl, rfl, hgj, hj, HA⟩ := hrel
              rename World => wi
              clear hcx
              by_cases hjn : j < n
              · obtain ⟨y, hy⟩ : ∃ y, L[j]? = some y := ⟨_, List.getElem?_eq_getElem (by omega)⟩
                have hvl : v.length = n := HA.out.1.1.trans HI.out.1
                obtain ⟨q, hq⟩ : ∃ q, v[j]? = some q := ⟨_, List.getElem?_eq_getElem (by omega)⟩
                have hcy : wi.cell? ⟨b, off + j, none⟩ = some (.string (B y)) := (L2.out.keep HA.out.2.2.2).2 j y hy
                have hcq : wi.cell? ⟨w2.heap.size, j, none⟩ = some (.bool q) := (HA.out.2.1 j q hq).1
                have hfq : wi.frozen? ⟨w2.heap.size, j, none⟩ = false := (HA.out.2.1 j q hq).2
                have hjn' : (j : Int) < (n : Int) := by omega
                have exy := eq_is x y
                have HY := Lib.hid hy
                have HQ := Lib.hid hq
                have HL := Lib.hid hvl
                clear hy hq hvl hx
                cases f with
                | true =>
                  clear hcq hfq exy
                  go_wp2
                  go_roundg (gk - 1)
                  case measure => omega
                  case rel => exact ⟨j + 1, true, v, rfl, by go_num, by omega, by omega, ⟨HA.out.1.keep, HA.out.2⟩⟩
                | false =>
                  have HU : Hid (v = u) := HA.out.1.2.1
                  cases q with
                  | true =>
                    clear exy
                    go_wp2
                    go_roundg (gk - 1)
                    case measure => omega
                    case rel => exact ⟨j + 1, false, v, rfl, by go_num, by omega, by omega, ⟨HA.out.1.miss HY.out (by rw [← HU.out]; exact HQ.out) (fun h => by cases h.1), HA.out.2⟩⟩
                  | false =>
                    by_cases hxy : x = y
                    · have HB3 : Hid (Bl w2 (wi.setCell ⟨w2.heap.size, j, none⟩ (.bool true))) := HA.out.2.2.2.setCell (Nat.le_refl _) _
                      have HBt : Hid (Bits (wi.setCell ⟨w2.heap.size, j, none⟩ (.bool true)) w2.heap.size (v.set j true)) := HA.out.2.1.set true (by rw [HL.out]; omega)
                      have HAt : Hid (Srt.At x L u (j + 1) true (v.set j true)) := HA.out.1.hit (by rw [hxy]; exact HY.out) (by rw [← HU.out]; exact HQ.out)
                      have HSz : Hid (w2.heap.size < (wi.setCell ⟨w2.heap.size, j, none⟩ (.bool true)).heap.size) := by
                        have h1 := HA.out.2.2.1
                        have h2 := ((Bl.refl wi).setCell (p := ⟨wi.heap.size, 0, none⟩) (Nat.le_refl _) (.bool true)).size
                        show w2.heap.size < (wi.heap.modify _ _).size
                        rw [Array.size_modify]; exact h1
                      rw [decide_eq_true hxy] at exy
                      clear hxy
                      go_wp2
                      go_roundg (gk - 1)
                      case measure => omega
                      case rel => exact ⟨j + 1, true, v.set j true, rfl, by go_num, by omega, by omega, ⟨HAt.out, HBt.out, HSz.out, HB3.out⟩⟩
                    · rw [decide_eq_false hxy] at exy
                      go_wp2
                      go_roundg (gk - 1)
                      case measure => omega
                      case rel => exact ⟨j + 1, false, v, rfl, by go_num, by omega, by omega, ⟨HA.out.1.miss HY.out (by rw [← HU.out]; exact HQ.out) (fun h => hxy h.2), HA.out.2⟩⟩
              · have hjn' : ¬ (j : Int) < (n : Int) := by omega
                have hm := HA.out.1.over (by omega)
                obtain ⟨s1, s2⟩ := Srt.still HI.out.2.2.2.1 hx
                rw [hm] at s1 s2
                obtain rfl : f = true := s1
                have HN : Hid (v.length = n ∧ Bits wi w2.heap.size v ∧ w2.heap.size < wi.heap.size ∧ (Srt.left L v).Perm (out.drop (k + 1)) ∧ Bl w2 wi) := ⟨HA.out.1.1.trans HI.out.1, HA.out.2.1, HA.out.2.2.1, s2, HA.out.2.2.2⟩
                have HX := Lib.hid hx
                clear hm s2 hgj hx HA HI
                by_cases hk0 : k = 0
                · have hk0' : ¬ (0 : Int) < (k : Int) := by omega
                  go_wp2
                  go_roundg (G - 1)
                  case measure => have := HG.out; omega
                  case rel => exact ⟨k + 1, v, by go_num, by omega, by omega, HN⟩
                · obtain ⟨y, hy⟩ : ∃ y, out[k - 1]? = some y := ⟨_, List.getElem?_eq_getElem (by omega)⟩
                  have hk0' : (0 : Int) < (k : Int) := by omega
                  have hka : ((k : Int) - 1).toNat = k - 1 := by omega
                  have hkb : (0 : Int) ≤ (k : Int) - 1 := by omega
                  have hkc : (k : Int) - 1 < (n : Int) := by omega
                  have hcy : ∀ w3, Bl w2 w3 → w3.cell? ⟨g, k - 1, none⟩ = some (.string (B y)) := fun w3 h3 => by
                    have := (LO.out.keep h3).2 (k - 1) y hy
                    rwa [Nat.zero_add] at this
                  have HCY := Lib.hid hcy
                  have hcy1 := hcy wi HN.out.2.2.2.2
                  obtain ⟨c1, c2⟩ := Srt.ordV_le (ADJ.out (k - 1) y x hy (by rw [show k - 1 + 1 = k by omega]; exact HX.out))
                  have hys : y.length ≤ 200 := ALL.out y (PERM.out.subset (List.mem_of_getElem? hy))
                  have hxs : x.length ≤ 200 := ALL.out x (PERM.out.subset (List.mem_of_getElem? HX.out))
                  have CC : Hid (∀ w, Calls Tryd.prog 8 #[.string (B y), .string (B x)] w fun e w' => e = .returned (.int .i64 (Ver.cmp y x)) ∧ Gr w w') := fun w => by
                    have := spCompare_calls (B y) (B x) w (by rw [B_size]; omega) (by rw [B_size]; omega)
                    rwa [B_data, B_data] at this
                  have hle : Ver.cmp y x = 0 → (Op.bytesLess (B y).toList (B x).toList || (B y).toList == (B x).toList) = true := fun h => by
                    rw [B_list, B_list]; exact less_or_eq y x (c2 h)
                  clear hcy hys hxs hy c2
                  generalize Ver.cmp y x = cz at *
                  by_cases hz : cz = 0
                  · subst hz
                    have hle' := hle rfl
                    clear hle c1
                    generalize he1 : Op.bytesLess (B y).toList (B x).toList = bl at hle'
                    generalize he2 : ((B y).toList == (B x).toList) = be at hle'
                    go_wp2_with fail
                    refine (CC.out _).mono ?_
                    rintro e w3 ⟨rfl, g3⟩
                    have hcy3 := HCY.out w3 (HN.out.2.2.2.2.gr g3)
                    have HN3 : Hid (v.length = n ∧ Bits w3 w2.heap.size v ∧ w2.heap.size < w3.heap.size ∧ (Srt.left L v).Perm (out.drop (k + 1)) ∧ Bl w2 w3) :=
                      ⟨HN.out.1, HN.out.2.1.keep HN.out.2.2.1 (Bl.of_gr g3), Nat.lt_of_lt_of_le HN.out.2.2.1 (Bl.of_gr g3).size, HN.out.2.2.2.1, HN.out.2.2.2.2.gr g3⟩
                    clear hcy1 g3 HCY HN
                    cases bl <;> cases be <;> first | cases hle' | skip
                    all_goals
                      go_wp2
                      go_roundg (G - 1)
                      case measure => have := HG.out; omega
                      case rel => exact ⟨k + 1, v, by go_num, by omega, by omega, HN3⟩
                  · have hz1 : (cz == 0) = false := beq_eq_false_iff_ne.2 hz
                    have hz2 : ¬ (0 : Int) < cz := by omega
                    clear hle
                    go_wp2_with fail
                    refine (CC.out _).mono ?_
                    rintro e w3 ⟨rfl, g3⟩
                    have HN3 : Hid (v.length = n ∧ Bits w3 w2.heap.size v ∧ w2.heap.size < w3.heap.size ∧ (Srt.left L v).Perm (out.drop (k + 1)) ∧ Bl w2 w3) :=
                      ⟨HN.out.1, HN.out.2.1.keep HN.out.2.2.1 (Bl.of_gr g3), Nat.lt_of_lt_of_le HN.out.2.2.1 (Bl.of_gr g3).size, HN.out.2.2.2.1, HN.out.2.2.2.2.gr g3⟩
                    clear hcy1 g3 HCY HN
                    go_wp2
                    go_roundg (G - 1)
                    case measure => have := HG.out; omega
                    case rel => exact ⟨k + 1, v, by go_num, by omega, by omega, HN3⟩
          · have hlt' : ¬ (k : Int) < (n : Int) := by omega
            have BW : Hid (Bl w2 wr) := HI.out.2.2.2.2
            have hbw := Lib.hid (HB2.out.keepB BW.out)
            clear hg HI
            go_wp2_with fail
            refine (CA.out _ hbw.out).mono ?_
            rintro e w5 ⟨rfl, g5⟩
            go_wp2
            go_ret
            exact ⟨rfl, (BEL.out.trans BW.out).gr g5⟩
end Go.Proofs.YtppnjkfeefmohaaDoor
