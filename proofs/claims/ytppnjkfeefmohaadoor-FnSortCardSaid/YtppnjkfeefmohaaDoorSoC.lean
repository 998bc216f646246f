/- The walk of the thin package's Sort. -/
import Derived.Test.YtppnjkfeefmohaaDoorSoB
namespace Go.Proofs.YtppnjkfeefmohaaDoor
open Go.RowKit Str Go.Sort
set_option linter.unusedVariables false

def AdjV (out : List (ByteArray × ByteArray)) : Prop := ∀ i x y, out[i]? = some x → out[i + 1]? = some y → Srt.lt Srt.ordM (keyV y) (keyV x) = false

theorem mdSort_tell (g cap n : Nat) (L : List (ByteArray × ByteArray)) (hL : L.length = n) (h12 : n ≤ 12) (hsz : ∀ x ∈ L, x.1.size ≤ 2147483647 ∧ x.2.size ≤ 2147483647) (W : World) (hg : g < W.heap.size) (hl : LieV W g 0 L) (hf : ∀ j, W.frozen? ⟨g, j, none⟩ = false) :
    Calls Tryd.prog 13 #[.slice (some ⟨g, 0, none⟩) n cap] W fun e w' => e = .returned (.tuple #[]) ∧ (∃ out, out.length = n ∧ LieV w' g 0 out ∧ out.Perm L ∧ AdjV out) ∧ Below g W w' := by
  have hH := holdsK_fits hsz hl hf
  have hv := fits_vals L hsz
  have hs := fits_size L hsz
  generalize fits L hsz = d at *
  have hdn : d.size = n := by rw [hs, hL]
  have := mdSort_calls g 0 cap d W hH hg (by omega)
  rw [hdn] at this
  refine this.mono ?_
  rintro e w' ⟨rfl, m, os, rfl⟩
  obtain ⟨hp, ha⟩ := Srt.insertion_adj (lt := ltOf cfV) (fun x y h => Srt.ordM_less (keyV x.1) (keyV y.1) h) d
  rw [hdn] at hp ha
  generalize insertionSort (ltOf cfV) d 0 n = d' at *
  have hsd : d'.size = n := by rw [hp.1, hdn]
  have hH' := holdsK_sortWorldK_c encV 2 W g 0 d d' m os hH hg (by rw [hsd, hdn])
  refine ⟨rfl, ⟨d'.toList.map (fun x => x.1), by simp [hsd], ⟨fun _ => Nat.lt_of_lt_of_le hg (size_sortWorldK_c encV 2 W g 0 m d' os), fun j X hj => ?_⟩, ?_, fun i x y hx hy => ?_⟩, sort_belowK encV 2 W g 0 m d' os g (Nat.le_refl _) (Nat.le_of_lt hg)⟩
  · rw [List.getElem?_map, Array.getElem?_toList] at hj
    obtain ⟨z, hz, rfl⟩ := Option.map_eq_some_iff.1 hj
    obtain ⟨hlt, hz⟩ := Array.getElem?_eq_some_iff.1 hz
    have c1 := (hH'.cell (i := j) (c := 0) hlt (by omega)).1
    have c2 := (hH'.cell (i := j) (c := 1) hlt (by omega)).1
    rw [getElem!_pos d' j hlt, hz] at c1 c2
    exact ⟨c1, c2⟩
  · rw [← hv]
    rw [← hdn] at hp
    exact (Srt.permIn_perm hp).map _
  · rw [List.getElem?_map, Array.getElem?_toList] at hx hy
    obtain ⟨z, hz, rfl⟩ := Option.map_eq_some_iff.1 hx
    obtain ⟨z2, hz2, rfl⟩ := Option.map_eq_some_iff.1 hy
    obtain ⟨hlt, hz⟩ := Array.getElem?_eq_some_iff.1 hz
    obtain ⟨hlt2, hz2⟩ := Array.getElem?_eq_some_iff.1 hz2
    have := ha (i + 1) (by omega) (by omega)
    rw [show i + 1 - 1 = i by omega, getElem!_pos d' i hlt, getElem!_pos d' (i + 1) hlt2, hz, hz2] at this
    exact this

theorem info_mv : (Tryd.prog.info? 38).map (fun i => (i.zero, i.size, i.bytes)) = some (some (.agg #[.string ⟨#[]⟩, .string ⟨#[]⟩]), 2, 32) := by kernel_rfl
theorem info_iv : (Tryd.prog.info? 27).map (fun i => (i.zero, i.size, i.bytes)) = some (some (.agg #[.string ⟨#[]⟩, .string ⟨#[]⟩]), 2, 32) := by kernel_rfl
theorem two_str (a b : ByteArray) : ∀ u ∈ [Value.string a, Value.string b], u.oneCell' = true := by intro u hu; simp at hu; rcases hu with rfl | rfl <;> rfl
theorem cell_two' (w : World) (x y : Value) (t : TypeId) : ∀ j u, [x, y][j]? = some u → (w.alloc (.cells #[x, y] t)).cell? ((⟨w.heap.size, 0, none⟩ : Addr).add j) = some u := by
  intro j u hj
  match j, hj with
  | 0, hj => simp at hj; subst hj; simp [Addr.add]
  | 1, hj => simp at hj; subst hj; simp [Addr.add]

/-- what Sort hands back -/
def OutE (n : Nat) (L : List (ByteArray × ByteArray)) (e : Ending) (w' : World) : Prop :=
  ∃ gb g cap out, e = .returned (.slice gb n cap) ∧ out.length = n ∧ (0 < n → gb = some ⟨g, 0, none⟩) ∧ LieV w' g 0 out ∧ out.Perm L ∧ AdjV out

set_option maxRecDepth 100000 in
set_option maxHeartbeats 8000000 in
theorem iSort_calls (ga : Option Addr) (b off n c : Nat) (L : List (ByteArray × ByteArray)) (hL : L.length = n) (hga : 0 < n → ga = some ⟨b, off, none⟩) (w : World) (hlie : LieV w b off L) (hn : n ≤ 12) (hsz : ∀ x ∈ L, x.1.size ≤ 2147483647 ∧ x.2.size ≤ 2147483647) :
    Calls Tryd.prog 6 #[.slice ga n c] w fun e w' => OutE n L e w' ∧ Bl w w' := by
  obtain ⟨i0, hi, hz0, hz1, hz2⟩ := info_parts info_mv
  obtain ⟨i3, gi, gz0, gz1, gz2⟩ := info_parts info_iv
  have LIE := Lib.hid hlie
  have SZ := Lib.hid hsz
  clear hlie hsz
  go_enter Tryd.func6, Tryd.ntmps6
  go_wp2
  go_loopg [3, 12] (n + 1) (fun g v3 v12 wr => ∃ k : Nat, v12 = .int .i64 k ∧ n < k + g ∧ k ≤ n ∧ wr.ownsRow w.heap.size 38 2 v3 k (cellsV (L.take k)) ∧ Bl w wr)
  case atStart =>
    refine ⟨0, rfl, by omega, by omega, ?_, (Bl.refl w).alloc _⟩
    exact World.ownsRow_made w #[] 0 (Nat.le_refl _) (Nat.zero_le _) rfl
  case round =>
    obtain ⟨k, rfl, hg, hk, hown, hbl⟩ := hrel
    have HBL := Lib.hid hbl
    clear hbl
    by_cases hlt : k < n
    · obtain rfl := hga (by omega)
      obtain ⟨x, hx⟩ : ∃ x, L[k]? = some x := ⟨_, List.getElem?_eq_getElem (by omega)⟩
      obtain ⟨hc1, hc2⟩ := (LIE.out.keep HBL.out).2 k x hx
      have hlt' : (k : Int) < (n : Int) := by omega
      have HT : Hid (cellsV (L.take (k + 1)) = cellsV (L.take k) ++ [.string x.1, .string x.2]) := by
        show _ = _
        obtain ⟨q, rfl⟩ := List.getElem?_eq_some_iff.1 hx
        rw [List.take_succ_eq_append_getElem q, cellsV_snoc]
      obtain ⟨p, v⟩ := x
      have hc1' : wr.cell? ⟨b, off + k * 2, none⟩ = some (.string p) := hc1
      have hc2' : wr.cell? ⟨b, off + k * 2 + 1, none⟩ = some (.string v) := hc2
      clear hc1 hc2 hx
      go_wp2_with (first
        | (at_builtin; refine wpList_append_own _ rfl _ _ 36 rfl w.heap.size 38 i0 _ 2 32 Tryd.underlying36 hi hz0 hz1 hz2 rfl (by decide) _ _ _ rfl ((hown.alloc _).alloc _) _ 1 1 [.string p, .string v] rfl rfl ?c2 (two_str _ _) ?c3 ?c4 ?c5 ?_))
      case c3 => unfold maxLen; omega
      case c4 => omega
      case c5 => have := HBL.out.size; simp; omega
      intro v' w2 hown' hgrow _
      have hrow : ∀ k, Value.ownBlock _ = some k → w.heap.size ≤ k := fun k hk => (hown.lt k hk).1
      have HB2 := Lib.hid (((HBL.out.alloc _).alloc _).grown hgrow hrow)
      have HO2 : Hid (w2.ownsRow w.heap.size 38 2 v' (k + 1) (cellsV (L.take (k + 1)))) := by
        rw [HT.out]; exact hown'
      clear hown hown' hgrow hrow HBL HT hc1' hc2'
      go_wp2
      go_roundg (gk - 1)
      case measure => omega
      case rel => exact ⟨k + 1, by go_num, by omega, by omega, HO2.out, HB2.out⟩
    · have hlt' : ¬ (k : Int) < (n : Int) := by omega
      obtain rfl : k = n := by omega
      rw [List.take_of_length_le (by omega)] at hown
      obtain ⟨gb, g, cap, rfl, hgb, hl, hf⟩ := lieV_owned hL hown
      have HS : Hid (Calls Tryd.prog 13 #[.slice gb k cap] wr fun e w' => e = .returned (.tuple #[]) ∧ (∃ g2 out, out.length = k ∧ (0 < k → gb = some ⟨g2, 0, none⟩) ∧ LieV w' g2 0 out ∧ out.Perm L ∧ AdjV out) ∧ Bl w w') := by
        by_cases hk0 : k = 0
        · subst hk0
          obtain rfl := List.eq_nil_of_length_eq_zero hL
          refine (mdSort_none gb cap wr).mono ?_
          rintro e w' ⟨rfl, rfl⟩
          exact ⟨rfl, ⟨0, [], rfl, fun h => absurd h (by omega), ⟨fun h => absurd rfl h, fun j X h => by simp at h⟩, List.Perm.refl _, fun i x y h => by simp at h⟩, HBL.out⟩
        · obtain ⟨rfl, h1, h2⟩ := hgb (by omega)
          refine (mdSort_tell g cap k L hL hn SZ.out wr h2 hl (hf (by omega))).mono ?_
          rintro e w' ⟨rfl, ⟨out, q1, q2, q3, q4⟩, bel⟩
          exact ⟨rfl, ⟨g, out, q1, fun _ => rfl, q2, q3, q4⟩, (show Below w.heap.size w wr from HBL.out).trans (bel.mono h1)⟩
      clear hown hgb hl hf HBL hg hlt LIE SZ
      go_wp2_with fail
      refine HS.out.mono ?_
      rintro e w2 ⟨rfl, ⟨g2, out, q1, q5, q2, q3, q4⟩, bel⟩
      have Q2 := Lib.hid q2
      have Q := Lib.hid (And.intro q3 q4)
      have B2 : Hid (Bl w w2) := bel
      clear q2 q3 q4 bel HS
      go_wp2
      go_loopg [6, 29] (k + 1) (fun g v6 v29 wr => ∃ j : Nat, v29 = .int .i64 j ∧ k < j + g ∧ j ≤ k ∧ wr.ownsRow w2.heap.size 27 2 v6 j (cellsV (out.take j)) ∧ Bl w2 wr)
      case atStart =>
        exact ⟨0, rfl, by omega, by omega, World.ownsRow_nil _ _ _ _, Bl.refl w2⟩
      case round =>
        obtain ⟨j, rfl, hg, hj, hown, hbl⟩ := hrel
        rename World => wr
        have HBL := Lib.hid hbl
        clear hbl
        by_cases hlt : j < k
        · obtain rfl := q5 (by omega)
          obtain ⟨x, hx⟩ : ∃ x, out[j]? = some x := ⟨_, List.getElem?_eq_getElem (by omega)⟩
          obtain ⟨hc1, hc2⟩ := (Q2.out.keep HBL.out).2 j x hx
          have hlt' : (j : Int) < (k : Int) := by omega
          have HT : Hid (cellsV (out.take (j + 1)) = cellsV (out.take j) ++ [.string x.1, .string x.2]) := by
            show _ = _
            obtain ⟨q, rfl⟩ := List.getElem?_eq_some_iff.1 hx
            rw [List.take_succ_eq_append_getElem q, cellsV_snoc]
          obtain ⟨p, v⟩ := x
          have hc1' : wr.cell? ⟨g2, j * 2, none⟩ = some (.string p) := by rw [Nat.zero_add] at hc1; exact hc1
          have hc2' : wr.cell? ⟨g2, j * 2 + 1, none⟩ = some (.string v) := by rw [Nat.zero_add] at hc2; exact hc2
          clear hc1 hc2 hx
          go_wp2_with (first
            | (at_builtin; refine wpList_append_own _ rfl _ _ 22 rfl w2.heap.size 27 i3 _ 2 32 Tryd.underlying22 gi gz0 gz1 gz2 rfl (by decide) _ _ _ rfl ((hown.alloc _).alloc _) _ 1 1 [.string p, .string v] rfl rfl ?d2 (two_str _ _) ?d3 ?d4 ?d5 ?_))
          case d3 => unfold maxLen; omega
          case d4 => omega
          case d5 => have := HBL.out.size; simp; omega
          intro v' w3 hown' hgrow _
          have hrow : ∀ k, Value.ownBlock _ = some k → w2.heap.size ≤ k := fun k hk => (hown.lt k hk).1
          have HB2 := Lib.hid (((HBL.out.alloc _).alloc _).grown hgrow hrow)
          have HO2 : Hid (w3.ownsRow w2.heap.size 27 2 v' (j + 1) (cellsV (out.take (j + 1)))) := by
            rw [HT.out]; exact hown'
          clear hown hown' hgrow hrow HBL HT hc1' hc2'
          go_wp2
          go_roundg (gk - 1)
          case measure => omega
          case rel => exact ⟨j + 1, by go_num, by omega, by omega, HO2.out, HB2.out⟩
        · have hlt' : ¬ (j : Int) < (k : Int) := by omega
          obtain rfl : j = k := by omega
          rw [List.take_of_length_le (by omega)] at hown
          obtain ⟨gb3, g3, cap3, rfl, hgb3, hl3, _⟩ := lieV_owned q1 hown
          have H3 := Lib.hid (And.intro hgb3 hl3)
          clear hown hgb3 hl3 hg
          go_wp2
          go_ret
          exact ⟨⟨_, g3, _, out, rfl, q1, fun h => (H3.out.1 h).1, H3.out.2, Q.out.1, Q.out.2⟩, B2.out.trans HBL.out⟩
end Go.Proofs.YtppnjkfeefmohaaDoor
