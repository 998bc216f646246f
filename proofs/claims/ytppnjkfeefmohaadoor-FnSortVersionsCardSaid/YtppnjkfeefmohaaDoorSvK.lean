/- The walk of the thin package's SortVersions: a list of texts comes in; what goes out is the same texts, sorted. -/
import Derived.Test.YtppnjkfeefmohaaDoorSvJ
import Derived.Test.YtppnjkfeefmohaaDoorSrtM
import Derived.Test.YtppnjkfeefmohaaDoorSortL
namespace Go.Proofs.YtppnjkfeefmohaaDoor
open Go.RowKit Str Go.Sort
set_option linter.unusedVariables false

theorem holds_owned {W : World} {base : Nat} {e : TypeId} {n g cap : Nat} {d : Array Sh} (h : W.ownsRow base e 1 (.slice (some ⟨g, 0, none⟩) n cap) n (d.toList.map encS)) : d.size = n ∧ Holds encS W g 0 d := by
  have hn : d.size = n := by have := h.1; simpa using this
  refine ⟨hn, fun j hj => ?_⟩
  rw [Nat.zero_add]
  refine ⟨?_, h.frozenAt j⟩
  rw [h.cellAt j (by omega), List.getElem?_map, Array.getElem?_toList, Array.getElem?_eq_getElem hj, getElem!_pos d j hj]
  rfl

/-- short texts as a row -/
def shorts (L : List (List UInt8)) (h : ∀ x ∈ L, x.length ≤ 1000) : Array Sh := (L.pmap (fun x hx => (⟨B x, by rw [B_size]; exact hx⟩ : Sh)) h).toArray
theorem shorts_vals (L : List (List UInt8)) (h : ∀ x ∈ L, x.length ≤ 1000) : (shorts L h).toList.map (fun x => x.1.data.toList) = L := by
  have : ∀ (M : List (List UInt8)) (k : ∀ x ∈ M, x.length ≤ 1000), M.pmap (fun x hx => ((⟨B x, by rw [B_size]; exact hx⟩ : Sh).1.data.toList)) k = M := by
    intro M
    induction M with
    | nil => intro _; rfl
    | cons a M ih => intro k; rw [List.pmap_cons, ih, show (B a).data.toList = a from B_data a]
  show ((L.pmap (fun x hx => (⟨B x, by rw [B_size]; exact hx⟩ : Sh)) h)).map (fun x => x.1.data.toList) = L
  rw [List.map_pmap]
  exact this L h
theorem shorts_encs (L : List (List UInt8)) (h : ∀ x ∈ L, x.length ≤ 1000) : (shorts L h).toList.map encS = L.map fun l => .string (B l) := by
  have : ∀ x : Sh, encS x = .string (B x.1.data.toList) := fun x => by rw [B_of]; rfl
  have e : encS = (fun l => Value.string (B l)) ∘ (fun x : Sh => x.1.data.toList) := by funext x; exact this x
  rw [e, ← List.map_map, shorts_vals]

theorem iSortVersions_calls (ga : Option Addr) (b off n c : Nat) (L : List (List UInt8)) (hL : L.length = n) (hga : 0 < n → ga = some ⟨b, off, none⟩) (w : World) (hlie : Lie w b off L) (hn : n ≤ 30) (hx : ∀ x ∈ L, x.length ≤ 1000) :
    Calls Tryd.prog 11 #[.slice ga n c] w fun e w' => (∃ gb g cap out, e = .returned (.slice gb n cap) ∧ out.length = n ∧ (0 < n → gb = some ⟨g, 0, none⟩) ∧ Lie w' g 0 out ∧ out.Perm L ∧ (∀ i x y, out[i]? = some x → out[i + 1]? = some y → Srt.ordV x y ≤ 0)) ∧ Bl w w' := by
  by_cases h0 : n = 0
  · subst h0
    obtain rfl := List.eq_nil_of_length_eq_zero hL
    have C2 := Lib.hid fun p cap w => svSort_none p cap w
    cases ga with
    | none =>
      have C1 := Lib.hid fun w => slices_Clone_string_nil 0 c w
      go_enter Tryd.func11, Tryd.ntmps11
      go_wp2_with fail
      refine (C1.out _).mono ?_
      rintro e w' ⟨rfl, rfl⟩
      go_wp2_with fail
      refine (C2.out _ _ _).mono ?_
      rintro e w' ⟨rfl, rfl⟩
      go_wp2
      go_ret
      exact ⟨⟨_, 0, _, [], rfl, rfl, fun h => absurd h (by omega), ⟨fun h => absurd rfl h, fun j X h => by simp at h⟩, List.Perm.refl _, fun i x y h => by simp at h⟩, Bl.refl _⟩
    | some a =>
      have C1 := Lib.hid fun w => slices_Clone_string_zero a c w
      go_enter Tryd.func11, Tryd.ntmps11
      go_wp2_with fail
      refine (C1.out _).mono ?_
      rintro e w1 ⟨v', rfl, hown, hnn, bel⟩
      obtain ⟨gb, cap, rfl⟩ : ∃ gb cap, v' = .slice gb 0 cap := by
        rcases hown.2 with ⟨h, _⟩ | ⟨g, cap, cur, h, _⟩
        · exact ⟨none, 0, h⟩
        · exact ⟨_, cap, h⟩
      have BL : Hid (Bl w w1) := bel
      clear hown hnn bel
      go_wp2_with fail
      refine (C2.out _ _ _).mono ?_
      rintro e w' ⟨rfl, rfl⟩
      go_wp2
      go_ret
      exact ⟨⟨_, 0, _, [], rfl, rfl, fun h => absurd h (by omega), ⟨fun h => absurd rfl h, fun j X h => by simp at h⟩, List.Perm.refl _, fun i x y h => by simp at h⟩, BL.out⟩
  · obtain rfl := hga (by omega)
    have hD : Hid (∀ w1 g cap, w1.ownsRow w.heap.size 9 1 (.slice (some ⟨g, 0, none⟩) n cap) n (L.map fun l => .string (B l)) → g < w1.heap.size →
        Calls Tryd.prog 21 #[.slice (some ⟨g, 0, none⟩) n cap] w1 fun e w' => e = .returned (.tuple #[]) ∧ (∃ out : List (List UInt8), out.length = n ∧ Lie w' g 0 out ∧ out.Perm L ∧ (∀ i x y, out[i]? = some x → out[i + 1]? = some y → Srt.ordV x y ≤ 0)) ∧ Below g w1 w') := by
      intro w1 g cap hown hg
      rw [← shorts_encs L hx] at hown
      obtain ⟨hds, hH⟩ := holds_owned hown
      have hv := shorts_vals L hx
      generalize shorts L hx = d at *
      have := svSort_calls g 0 cap d w1 hH hg (by omega)
      rw [hds] at this
      refine this.mono ?_
      rintro e w' ⟨rfl, d', m, os, hp, hs, rfl⟩
      have hH' := holds_sortWorld encS w1 g 0 m d d' os hg hH (by rw [hp.1])
      have hds' : d'.size = n := by rw [hp.1, hds]
      refine ⟨rfl, ⟨d'.toList.map (fun x => x.1.data.toList), by simp [hds'], ⟨fun _ => lt_sortWorld encS w1 g 0 m d' os hg, fun j X hj => ?_⟩, ?_, fun i x y hx hy => ?_⟩, sort_below encS w1 g 0 m d' os g (Nat.le_refl _) (Nat.le_of_lt hg)⟩
      · rw [List.getElem?_map, Array.getElem?_toList] at hj
        obtain ⟨z, hz, rfl⟩ := Option.map_eq_some_iff.1 hj
        obtain ⟨hlt, hz⟩ := Array.getElem?_eq_some_iff.1 hz
        have := (hH' j hlt).1
        rw [getElem!_pos d' j hlt, hz] at this
        rw [this, B_of]; rfl
      · rw [← hv]
        rw [← hds] at hp
        exact (Srt.permIn_perm hp).map _
      · rw [List.getElem?_map, Array.getElem?_toList] at hx hy
        obtain ⟨z, hz, rfl⟩ := Option.map_eq_some_iff.1 hx
        obtain ⟨z2, hz2, rfl⟩ := Option.map_eq_some_iff.1 hy
        obtain ⟨hlt, hz⟩ := Array.getElem?_eq_some_iff.1 hz
        obtain ⟨hlt2, hz2⟩ := Array.getElem?_eq_some_iff.1 hz2
        have := hs i (i + 1) (Nat.zero_le _) (by omega) (by omega)
        rw [getElem!_pos d' i hlt, getElem!_pos d' (i + 1) hlt2, hz, hz2] at this
        have h1 := Srt.lt_false.1 this
        have h2 := Srt.good_ordV.anti z.1.data.toList z2.1.data.toList
        have h3 : 0 ≤ Srt.ordV z2.1.data.toList z.1.data.toList := h1
        omega
    have C1 := Lib.hid fun w1 (k : ∀ j, j < (L.map B).length → w1.cell? ⟨b, off + j, none⟩ = some (.string ((L.map B).getD j ByteArray.empty))) => slices_Clone_string b off n c (L.map B) w1 (by simp; omega) (by omega) k
    have HK : Hid (∀ j, j < (L.map B).length → w.cell? ⟨b, off + j, none⟩ = some (.string ((L.map B).getD j ByteArray.empty))) := fun j hj => by
      have hj' : j < L.length := by simpa using hj
      rw [hlie.2 j _ (List.getElem?_eq_getElem hj')]
      simp [List.getD, hj']
    clear hlie hga
    go_enter Tryd.func11, Tryd.ntmps11
    go_wp2_with fail
    refine (C1.out _ HK.out).mono ?_
    rintro e w1 ⟨v', rfl, hown, hnn, bel⟩
    have BEL := Lib.hid bel
    obtain ⟨g, cap, rfl, hgw⟩ : ∃ g cap, v' = .slice (some ⟨g, 0, none⟩) n cap ∧ w.heap.size ≤ g := by
      rcases hown.2 with ⟨_, h⟩ | ⟨g, cap, cur, h, h2, _⟩
      · exact absurd h h0
      · exact ⟨g, cap, h, h2⟩
    have hg := (hown.lt g rfl).2
    have hown2 : w1.ownsRow w.heap.size 9 1 (.slice (some ⟨g, 0, none⟩) n cap) n (L.map fun l => .string (B l)) := by
      have : ((L.map B).take n).map Value.string = L.map fun l => Value.string (B l) := by
        rw [List.take_of_length_le (by simp; omega), List.map_map]; rfl
      rw [this] at hown; exact hown
    have C2 := Lib.hid (hD.out w1 g cap hown2 hg)
    clear hD hown hown2 hnn bel C1 HK
    go_wp2_with fail
    refine C2.out.mono ?_
    rintro e w2 ⟨rfl, ⟨out, q1, q2, q3, q4⟩, bel2⟩
    have Q := Lib.hid (And.intro q1 (And.intro q2 (And.intro q3 q4)))
    have BEL2 := Lib.hid bel2
    clear q1 q2 q3 q4 bel2
    go_wp2
    go_ret
    obtain ⟨q1, q2, q3, q4⟩ := Q.out
    exact ⟨⟨_, g, _, out, rfl, q1, fun _ => rfl, q2, q3, q4⟩, BEL.out.trans (BEL2.out.mono hgw)⟩
end Go.Proofs.YtppnjkfeefmohaaDoor
