/- Walks of the reference's ends and Elements; marks in a row. -/
import Derived.Test.YtmhffhokfdbbcaaDoorBm
import Derived.Test.YtmhffhokfdbbcaaDoorSpB
import Derived.Test.YtmhffhokfdbbcaaDoorPth
import Derived.Deep.OwnRows
import Derived.Deep.QuietTactic
import Derived.BigQuiet
namespace Go.Proofs.YtmhffhokfdbbcaaDoor
open Go.RowKit Str
set_option linter.unusedVariables false

theorem eq_of_list (s t : ByteArray) : (s.toList == t.toList) = decide (s.data.toList = t.data.toList) := by
  rw [Lib.toList_data, Lib.toList_data, Bool.eq_iff_iff, beq_iff_eq, decide_eq_true_eq]

theorem suffix_take (p l : List UInt8) : p.isSuffixOf l = (decide (p.length ≤ l.length) && decide (l.drop (l.length - p.length) = p)) := by
  rw [Bool.eq_iff_iff, Pth.suffix_drop, Bool.and_eq_true, decide_eq_true_eq, decide_eq_true_eq]

set_option maxHeartbeats 1000000 in
theorem ends_calls (s t : ByteArray) (w : World) (hs : s.size ≤ 140737488351232) :
    Calls Tryd.prog 9 #[.string s, .string t] w fun e w' => e = .returned (.bool (t.data.toList.isSuffixOf s.data.toList)) ∧ Drew w w' := by
  have HV := Lib.hid (suffix_take t.data.toList s.data.toList)
  by_cases h : t.size ≤ s.size
  · obtain ⟨f, hf⟩ : ∃ f, s.extract (s.size - t.size) s.size = f := ⟨_, rfl⟩
    have E := eq_of_list f t
    have hfl : f.data.toList = s.data.toList.drop (s.size - t.size) := by rw [← hf, Lib.extract_to_end]
    have hv := HV.out
    rw [← Lib.size_eq, ← Lib.size_eq, decide_eq_true h, Bool.true_and, ← hfl, ← E] at hv
    have hn : ((s.size : Int) - (t.size : Int)).toNat = s.size - t.size := by omega
    have h0 : (0 : Int) ≤ (s.size : Int) - (t.size : Int) := by omega
    have h1 : (s.size : Int) - (t.size : Int) ≤ (s.size : Int) := by omega
    generalize t.data.toList.isSuffixOf s.data.toList = b at *
    have hv2 := hv.symm
    clear HV hfl E hv
    cases b
    all_goals
      go_enter Tryd.func9, Tryd.ntmps9
      go_wp2
      try (go_quiet (fail); go_wp2)
      go_ret
      exact ⟨rfl, by first | exact Drew.refl _ | exact ⟨_, rfl⟩⟩
  · have HF : Hid (t.data.toList.isSuffixOf s.data.toList = false) := by
      show _ = _
      rw [HV.out, ← Lib.size_eq, ← Lib.size_eq, decide_eq_false h, Bool.false_and]
    clear HV
    go_enter Tryd.func9, Tryd.ntmps9
    go_wp2
    try (go_quiet (fail); go_wp2)
    go_ret
    exact ⟨by rw [HF.out]; first | rfl | (simp; omega), by first | exact Drew.refl _ | exact ⟨_, rfl⟩⟩

theorem in_tell (c : UInt8) (l : List UInt8) : (!(l.dropWhile (· != c)).isEmpty) = l.contains c := by
  induction l with
  | nil => rfl
  | cons d l ih =>
    rw [List.dropWhile_cons, List.contains_cons]
    by_cases h : d = c
    · subst h; simp
    · rw [if_pos (by rw [bne_iff_ne]; exact h), ih, beq_eq_false_iff_ne.2 (fun e => h e.symm), Bool.false_or]

theorem split_step (l : List UInt8) : Ver.split 47 l = l.takeWhile (· != 47) :: (if l.contains 47 then Ver.split 47 (l.dropWhile (· != 47)).tail else []) := by
  rw [Ver.split_cons_eq, ← in_tell]
  cases h : l.dropWhile (· != 47) with
  | nil => rfl
  | cons c t => rfl

theorem cut_sizes (l : List UInt8) : (l.takeWhile (· != 47)).length ≤ l.length ∧ (l.contains 47 = true → (l.dropWhile (· != 47)).tail.length < l.length) := by
  have h := congrArg List.length (List.takeWhile_append_dropWhile (p := (· != 47)) (l := l))
  rw [List.length_append] at h
  refine ⟨by omega, fun hc => ?_⟩
  rw [← in_tell] at hc
  cases hd : l.dropWhile (· != 47) with
  | nil => rw [hd] at hc; cases hc
  | cons c t => rw [hd] at h; simp at h ⊢; omega

set_option maxRecDepth 100000 in
set_option maxHeartbeats 4000000 in
theorem Elements_calls (s : ByteArray) (w : World) (hs : s.size ≤ 1000) :
    Calls Tryd.prog 10 #[.string s] w fun e w' => (∃ v, e = .returned v ∧ Strs w' v (Ver.split 47 s.data.toList)) ∧ Bl w w' := by
  obtain ⟨i0, hi, hz0, hz1, hz2⟩ := info_parts info_str
  obtain ⟨L, hL⟩ : ∃ L, Ver.split 47 s.data.toList = L := ⟨_, rfl⟩
  have H0 : Hid (L = [] ++ Ver.split 47 s.data.toList) := hL.symm
  rw [hL]
  clear hL
  go_enter Tryd.func10, Tryd.ntmps10
  go_wp2
  go_loopg [0, 3] (s.size + 1) (fun g v0 v3 wr => ∃ (t : ByteArray) (done : List (List UInt8)), v0 = .string t ∧ t.size < g ∧ done.length + t.size ≤ s.size ∧ wr.ownsRow w.heap.size 9 1 v3 done.length (done.map fun l => .string (B l)) ∧ Bl w wr ∧ Hid (L = done ++ Ver.split 47 t.data.toList))
  case atStart =>
    refine ⟨s, [], rfl, by omega, by simp, ?_, (Bl.refl w).alloc _, H0⟩
    exact World.ownsRow_made w #[] 0 (Nat.le_refl _) (Nat.zero_le _) rfl
  case round =>
    clear H0
    obtain ⟨t, done, rfl, hg, hd, hown, hbl, HL⟩ := hrel
    obtain ⟨a, ha⟩ : ∃ a : ByteArray, a = B (t.data.toList.takeWhile (· != 47)) := ⟨_, rfl⟩
    obtain ⟨d, hdd⟩ : ∃ d : ByteArray, d = B (t.data.toList.dropWhile (· != 47)).tail := ⟨_, rfl⟩
    obtain ⟨b, hb⟩ : ∃ b, t.data.toList.contains 47 = b := ⟨_, rfl⟩
    have CC : Hid (∀ w, Calls Tryd.prog 8 #[.string t, .int .u8 47] w fun e w' => e = .returned (.tuple #[.string a, .string d, .bool b]) ∧ Drew w w') := fun w =>
      Cut_tell (c := 47) w rfl (by omega) (by rw [ha, B_data]) (by rw [hdd, B_data]) (by rw [in_tell]; exact hb)
    have hst := split_step t.data.toList
    rw [hb] at hst
    obtain ⟨hsz1, hsz2⟩ := cut_sizes t.data.toList
    rw [hb] at hsz2
    obtain ⟨A, hA⟩ : ∃ A, t.data.toList.takeWhile (· != 47) = A := ⟨_, rfl⟩
    rw [hA] at hst ha hsz1
    have HL2 : Hid (L = (done ++ [A]) ++ (if b = true then Ver.split 47 d.data.toList else [])) := by
      show _ = _; rw [HL.out, hst, hdd, B_data]; simp
    have HSZ : Hid (b = true → d.size < t.size) := fun h => by
      have := hsz2 h
      rw [hdd, B_size, Lib.size_eq]; exact this
    have HLEN : Hid ((done ++ [A]).length = done.length + 1) := by show _ = _; simp
    have HMAP : Hid ((done ++ [A]).map (fun l => (Value.string (B l))) = done.map (fun l => .string (B l)) ++ [.string a]) := by show _ = _; rw [ha]; simp
    have HO := Lib.hid hown
    have HBL := Lib.hid hbl
    clear HL hst hsz1 hsz2 hA ha hdd hb hown hbl
    go_wp2_with fail
    refine (CC.out _).mono ?_
    rintro e w1 ⟨rfl, d1⟩
    have hown := owns_drew HO.out d1
    have HB1 := Lib.hid (HBL.out.dr d1)
    clear d1 CC HO HBL
    go_wp2_with (first
      | (at_builtin; refine wpList_append_own _ rfl _ _ 26 rfl w.heap.size 9 i0 (.string ⟨#[]⟩) 1 16 Tryd.underlying26 hi hz0 hz1 hz2 rfl (by decide) _ _ _ rfl (hown.alloc _) ⟨w1.heap.size, 0, none⟩ 1 1 [.string a] rfl rfl (cell_one _ _ _) ?c2 ?c3 ?c4 ?c5 ?_))
    case c2 => intro u hu; simp at hu; subst hu; rfl
    case c3 => unfold maxLen; omega
    case c4 => omega
    case c5 => have := HB1.out.size; simp; omega
    intro v' w2 hown' hgrow _
    have hrow : ∀ k, Value.ownBlock _ = some k → w.heap.size ≤ k := fun k hk => (hown.lt k hk).1
    have HB2 := Lib.hid ((HB1.out.alloc _).grown hgrow hrow)
    have HO2 : Hid (w2.ownsRow w.heap.size 9 1 v' (done ++ [A]).length ((done ++ [A]).map fun l => .string (B l))) := by
      rw [HLEN.out, HMAP.out]; exact hown'
    clear hown hown' hgrow HB1 hrow HMAP
    cases b with
    | true =>
      have HL3 : Hid (L = (done ++ [A]) ++ Ver.split 47 d.data.toList) := HL2.out
      have hsz := HSZ.out rfl
      have hlen := HLEN.out
      have HDL : Hid ((done ++ [A]).length + d.size ≤ s.size) := by show _ ≤ _; omega
      clear HL2 HSZ HLEN hlen
      go_wp2
      go_roundg (gk - 1)
      case measure => omega
      case rel => exact ⟨d, done ++ [A], rfl, by omega, HDL.out, HO2.out, HB2.out, HL3⟩
    | false =>
      have HL3 : Hid (L = done ++ [A]) := by show _ = _; rw [HL2.out]; simp
      have HST : Hid (Strs w2 v' L) := by
        show Strs w2 v' L
        rw [HL3.out]
        exact Strs.of_owns HO2.out (by simp)
      clear HL2 HSZ HLEN HL3 HO2 hg
      go_wp2
      go_ret
      exact ⟨⟨_, rfl, HST.out⟩, HB2.out⟩

/-- marks in a row -/
def Bits (W : World) (g : Nat) (u : List Bool) : Prop := ∀ j b, u[j]? = some b → W.cell? ⟨g, j, none⟩ = some (.bool b) ∧ W.frozen? ⟨g, j, none⟩ = false
theorem Bits.keep {W W' : World} {g : Nat} {u : List Bool} (h : Bits W g u) (hg : g < W.heap.size) (k : Bl W W') : Bits W' g u :=
  fun j b hj => ⟨(k.cell hg).trans (h j b hj).1, (k.frozen hg).trans (h j b hj).2⟩
theorem Bits.set {W : World} {g : Nat} {u : List Bool} (h : Bits W g u) {j : Nat} (b : Bool) (hj : j < u.length) : Bits (W.setCell ⟨g, j, none⟩ (.bool b)) g (u.set j b) := by
  intro i c hi
  rw [World.frozen?_setCell]
  by_cases e : i = j
  · subst e
    rw [List.getElem?_set_self hj] at hi
    cases hi
    have := h i _ (List.getElem?_eq_getElem hj)
    exact ⟨World.cell?_setCell_same _ _ _ this.1, this.2⟩
  · rw [List.getElem?_set_ne (Ne.symm e)] at hi
    rw [World.cell?_setCell_other _ _ _ _ (fun h => e (congrArg Addr.off h).symm)]
    exact h i c hi
theorem Bits.made (w : World) (n : Nat) (t : TypeId) : Bits (w.alloc (.cells (madeCells #[.bool false] n) t)) w.heap.size (List.replicate n false) := by
  intro j b hj
  obtain ⟨h1, h2⟩ := List.getElem?_eq_some_iff.1 hj
  have hn : j < n := by simpa using h1
  have hb : b = false := by rw [← h2]; simp
  subst hb
  constructor
  · unfold World.cell? World.alloc
    simp [madeCells, hn, Nat.mod_one]
  · unfold World.frozen? World.alloc
    simp

end Go.Proofs.YtmhffhokfdbbcaaDoor
