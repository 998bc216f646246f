/- Walks of the reference's letter, in, Tilde and Elements. -/
import Derived.Test.YtndimgajkjkgfaaDoorBl
import Derived.Test.YtndimgajkjkgfaaDoorPe
import Derived.Test.YtndimgajkjkgfaaDoorSpB
import Derived.Deep.QuietTactic
import Derived.BigQuiet
namespace Go.Proofs.YtndimgajkjkgfaaDoor
open Go.RowKit Str
set_option linter.unusedVariables false

set_option maxRecDepth 100000 in
set_option maxHeartbeats 2000000 in
theorem letter_calls (c : UInt8) (b : Bool) (h : alnum c.toNat = b) (w : World) :
    Calls Tryd.prog 41 #[.int .u8 c.toNat] w fun e w' => e = .returned (.bool b) ∧ w = w' := by
  have hl := c.toNat_lt
  unfold alnum at h
  generalize c.toNat = n at *
  cases b with
  | true =>
    rw [decide_eq_true_eq] at h
    rcases h with h | h | h
    all_goals
      obtain ⟨h1, h2⟩ := h
      go_enter Tryd.func41, Tryd.ntmps41
      go_wp2
      go_ret
      exact ⟨ret_bool (by first | rfl | (simp; omega)), rfl⟩
  | false =>
    rw [decide_eq_false_iff_not] at h
    rcases (by omega : n < 48 ∨ (57 < n ∧ n < 65) ∨ (90 < n ∧ n < 97) ∨ 122 < n) with h' | h' | h' | h'
    all_goals
      clear h
      go_enter Tryd.func41, Tryd.ntmps41
      go_wp2
      go_ret
      exact ⟨ret_bool (by first | rfl | (simp; omega)), rfl⟩

theorem in_tell (c : UInt8) (l : List UInt8) : (!(l.dropWhile (· != c)).isEmpty) = l.contains c := by
  induction l with
  | nil => rfl
  | cons d l ih =>
    rw [List.dropWhile_cons, List.contains_cons]
    by_cases h : d = c
    · subst h; simp
    · rw [if_pos (by rw [bne_iff_ne]; exact h), ih, beq_eq_false_iff_ne.2 (fun e => h e.symm), Bool.false_or]

theorem in_calls (c : UInt8) (ci : Int) (hci : (c.toNat : Int) = ci) (s : ByteArray) (b : Bool) (h : s.data.toList.contains c = b) (w : World) (hs : s.size ≤ 140737488351232) :
    Calls Tryd.prog 33 #[.int .u8 ci, .string s] w fun e w' => e = .returned (.bool b) ∧ Drew w w' := by
  obtain ⟨a, ha⟩ : ∃ a : ByteArray, s.data.toList.takeWhile (· != c) = a.data.toList := ⟨B _, (B_data _).symm⟩
  obtain ⟨d, hd⟩ : ∃ d : ByteArray, (s.data.toList.dropWhile (· != c)).tail = d.data.toList := ⟨B _, (B_data _).symm⟩
  have CC : Hid (∀ w, Calls Tryd.prog 42 #[.string s, .int .u8 ci] w fun e w' => e = .returned (.tuple #[.string a, .string d, .bool b]) ∧ Drew w w') := fun w =>
    Cut_tell w hci hs ha hd (by rw [in_tell]; exact h)
  clear ha hd h hci
  go_enter Tryd.func33, Tryd.ntmps33
  go_wp2_with fail
  refine (CC.out _).mono ?_
  rintro e w1 ⟨rfl, d1⟩
  go_wp2
  go_ret
  exact ⟨rfl, d1⟩

set_option maxRecDepth 100000 in
set_option maxHeartbeats 4000000 in
theorem Tilde_calls (s : ByteArray) (b : Bool) (h : Pe.tilde s.data.toList = b) (w : World) (hs : s.size ≤ 140737488351232) :
    Calls Tryd.prog 44 #[.string s] w fun e w' => e = .returned (.bool b) ∧ w = w' := by
  obtain ⟨R, hR⟩ : ∃ R, Pth.bk Ver.dig s.data.toList s.data.toList.length = R := ⟨_, rfl⟩
  have HB0 : Hid (R = Pth.bk Ver.dig s.data.toList s.size) := by show _ = _; rw [Lib.size_eq]; exact hR.symm
  have HT : Hid (b = (decide (R < s.size) && (decide (0 < R) && s.data.toList[R - 1]? == some 126))) := by
    show _ = _; rw [← h]; unfold Pe.tilde; rw [hR, Lib.size_eq]
  clear hR h
  go_enter Tryd.func44, Tryd.ntmps44
  go_wp2
  go_loopg [3] (s.size + 1) (fun g v3 wr => ∃ (k : Nat) (z : Int), v3 = .int .i64 z ∧ z = k ∧ k < g ∧ k ≤ s.size ∧ w = wr ∧ Hid (R = Pth.bk Ver.dig s.data.toList k))
  case atStart => exact ⟨s.size, _, rfl, rfl, by omega, Nat.le_refl _, rfl, HB0⟩
  case round =>
    clear HB0
    obtain ⟨k, z, rfl, hz, hg, hk, rfl, HB⟩ := hrel
    cases k with
    | zero =>
      have hz0 : ¬ 0 < z := by omega
      obtain rfl : R = 0 := HB.out
      obtain rfl : b = false := by rw [HT.out]; simp
      have zways : z < (s.size : Int) ∨ ¬ z < (s.size : Int) := by omega
      clear HB HT hz hg hk
      rcases zways with hz1 | hz1
      all_goals
        go_wp2
        go_ret
        exact ⟨rfl, rfl⟩
    | succ k =>
      have hlt : k < s.size := by omega
      have hz0 : 0 < z := by omega
      have hz1 : 0 ≤ z - 1 := by omega
      have hz2 : z - 1 < (s.size : Int) := by omega
      have hn1 : (z - 1).toNat = k := by omega
      obtain ⟨d, hd⟩ : ∃ d : UInt8, s[k]'hlt = d := ⟨_, rfl⟩
      have HD := Lib.hid (byte_at' s k hlt hd)
      by_cases hdig : 48 ≤ d.toNat ∧ d.toNat ≤ 57
      · have HN : Hid (R = Pth.bk Ver.dig s.data.toList k) := HB.out.trans (Pth.bk_yes HD.out (by unfold Ver.dig; exact decide_eq_true hdig))
        have HZ : Hid (z - 1 = (k : Int)) := by show _ = _; omega
        obtain ⟨d1, d2⟩ := hdig
        clear HB hz HD HT
        go_wp2
        go_roundg (gk - 1)
        case measure => omega
        case rel => exact ⟨k, z - 1, rfl, HZ.out, by omega, by omega, rfl, HN⟩
      obtain rfl : R = k + 1 := HB.out.trans (Pth.bk_no HD.out (by unfold Ver.dig; exact decide_eq_false hdig))
      have dways : d.toNat < 48 ∨ 57 < d.toNat := by omega
      have HT2 : Hid (b = (decide (k + 1 < s.size) && (some d == some 126))) := by
        show _ = _; rw [HT.out, decide_eq_true (by omega : 0 < k + 1), Bool.true_and, Nat.add_sub_cancel, HD.out]
      clear HB HT HD hdig
      by_cases hend : k + 1 < s.size
      · have hz3 : z < (s.size : Int) := by omega
        by_cases h126 : d = 126
        · subst h126
          obtain rfl : b = true := by rw [HT2.out, decide_eq_true hend]; rfl
          clear HT2 hz hg hk hend
          go_wp2
          go_ret
          exact ⟨rfl, rfl⟩
        · have e1 : ((d.toNat : Int) == 126) = false := ne_nat h126
          obtain rfl : b = false := by rw [HT2.out, decide_eq_true hend, Bool.true_and, beq_eq_false_iff_ne]; simpa using h126
          clear HT2 hz hg hk hend h126
          rcases dways with hdd | hdd
          all_goals
            go_wp2
            go_ret
            exact ⟨rfl, rfl⟩
      · have hz3 : ¬ z < (s.size : Int) := by omega
        obtain rfl : b = false := by rw [HT2.out, decide_eq_false hend]; rfl
        clear HT2 hz hg hk hend
        rcases dways with hdd | hdd
        all_goals
          go_wp2
          go_ret
          exact ⟨rfl, rfl⟩

theorem split_step (l : List UInt8) : Ver.split 47 l = l.takeWhile (· != 47) :: (if l.contains 47 then Ver.split 47 (l.dropWhile (· != 47)).tail else []) := by
  rw [Ver.split_cons_eq, ← in_tell]
  cases h : l.dropWhile (· != 47) with
  | nil => rfl
  | cons c t => rfl

theorem cut_sizes (l : List UInt8) : (l.takeWhile (· != 47)).length ≤ l.length ∧ (l.contains 47 = true → (l.dropWhile (· != 47)).tail.length < l.length) := by
  have h := congrArg List.length (List.takeWhile_append_dropWhile (p := (· != 47)) (l := l))
  rw [List.length_append] at h
  refine ⟨by omega, fun hc => ?_⟩
  rw [← in_tell] at hc
  cases hd : l.dropWhile (· != 47) with
  | nil => rw [hd] at hc; cases hc
  | cons c t => rw [hd] at h; simp at h ⊢; omega

set_option maxRecDepth 100000 in
set_option maxHeartbeats 4000000 in
theorem Elements_calls (s : ByteArray) (w : World) (hs : s.size ≤ 1000) :
    Calls Tryd.prog 32 #[.string s] w fun e w' => (∃ v, e = .returned v ∧ Strs w' v (Ver.split 47 s.data.toList)) ∧ Bl w w' := by
  obtain ⟨i0, hi, hz0, hz1, hz2⟩ := info_parts info_str
  obtain ⟨L, hL⟩ : ∃ L, Ver.split 47 s.data.toList = L := ⟨_, rfl⟩
  have H0 : Hid (L = [] ++ Ver.split 47 s.data.toList) := hL.symm
  rw [hL]
  clear hL
  go_enter Tryd.func32, Tryd.ntmps32
  go_wp2
  go_loopg [0, 3] (s.size + 1) (fun g v0 v3 wr => ∃ (t : ByteArray) (done : List (List UInt8)), v0 = .string t ∧ t.size < g ∧ done.length + t.size ≤ s.size ∧ wr.ownsRow w.heap.size 9 1 v3 done.length (done.map fun l => .string (B l)) ∧ Bl w wr ∧ Hid (L = done ++ Ver.split 47 t.data.toList))
  case atStart =>
    refine ⟨s, [], rfl, by omega, by simp, ?_, (Bl.refl w).alloc _, H0⟩
    exact World.ownsRow_made w #[] 0 (Nat.le_refl _) (Nat.zero_le _) rfl
  case round =>
    clear H0
    obtain ⟨t, done, rfl, hg, hd, hown, hbl, HL⟩ := hrel
    obtain ⟨a, ha⟩ : ∃ a : ByteArray, a = B (t.data.toList.takeWhile (· != 47)) := ⟨_, rfl⟩
    obtain ⟨d, hdd⟩ : ∃ d : ByteArray, d = B (t.data.toList.dropWhile (· != 47)).tail := ⟨_, rfl⟩
    obtain ⟨b, hb⟩ : ∃ b, t.data.toList.contains 47 = b := ⟨_, rfl⟩
    have CC : Hid (∀ w, Calls Tryd.prog 42 #[.string t, .int .u8 47] w fun e w' => e = .returned (.tuple #[.string a, .string d, .bool b]) ∧ Drew w w') := fun w =>
      Cut_tell (c := 47) w rfl (by omega) (by rw [ha, B_data]) (by rw [hdd, B_data]) (by rw [in_tell]; exact hb)
    have hst := split_step t.data.toList
    rw [hb] at hst
    obtain ⟨hsz1, hsz2⟩ := cut_sizes t.data.toList
    rw [hb] at hsz2
    obtain ⟨A, hA⟩ : ∃ A, t.data.toList.takeWhile (· != 47) = A := ⟨_, rfl⟩
    rw [hA] at hst ha hsz1
    have HL2 : Hid (L = (done ++ [A]) ++ (if b = true then Ver.split 47 d.data.toList else [])) := by
      show _ = _; rw [HL.out, hst, hdd, B_data]; simp
    have HSZ : Hid (b = true → d.size < t.size) := fun h => by
      have := hsz2 h
      rw [hdd, B_size, Lib.size_eq]; exact this
    have HLEN : Hid ((done ++ [A]).length = done.length + 1) := by show _ = _; simp
    have HMAP : Hid ((done ++ [A]).map (fun l => (Value.string (B l))) = done.map (fun l => .string (B l)) ++ [.string a]) := by show _ = _; rw [ha]; simp
    have HO := Lib.hid hown
    have HBL := Lib.hid hbl
    clear HL hst hsz1 hsz2 hA ha hdd hb hown hbl
    go_wp2_with fail
    refine (CC.out _).mono ?_
    rintro e w1 ⟨rfl, d1⟩
    have hown := owns_drew HO.out d1
    have HB1 := Lib.hid (HBL.out.dr d1)
    clear d1 CC HO HBL
    go_wp2_with (first
      | (at_builtin; refine wpList_append_own _ rfl _ _ 35 rfl w.heap.size 9 i0 (.string ⟨#[]⟩) 1 16 Tryd.underlying35 hi hz0 hz1 hz2 rfl (by decide) _ _ _ rfl (hown.alloc _) ⟨w1.heap.size, 0, none⟩ 1 1 [.string a] rfl rfl (cell_one _ _ _) ?c2 ?c3 ?c4 ?c5 ?_))
    case c2 => intro u hu; simp at hu; subst hu; rfl
    case c3 => unfold maxLen; omega
    case c4 => omega
    case c5 => have := HB1.out.size; simp; omega
    intro v' w2 hown' hgrow _
    have hrow : ∀ k, Value.ownBlock _ = some k → w.heap.size ≤ k := fun k hk => (hown.lt k hk).1
    have HB2 := Lib.hid ((HB1.out.alloc _).grown hgrow hrow)
    have HO2 : Hid (w2.ownsRow w.heap.size 9 1 v' (done ++ [A]).length ((done ++ [A]).map fun l => .string (B l))) := by
      rw [HLEN.out, HMAP.out]; exact hown'
    clear hown hown' hgrow HB1 hrow HMAP
    cases b with
    | true =>
      have HL3 : Hid (L = (done ++ [A]) ++ Ver.split 47 d.data.toList) := HL2.out
      have hsz := HSZ.out rfl
      have hlen := HLEN.out
      have HDL : Hid ((done ++ [A]).length + d.size ≤ s.size) := by show _ ≤ _; omega
      clear HL2 HSZ HLEN hlen
      go_wp2
      go_roundg (gk - 1)
      case measure => omega
      case rel => exact ⟨d, done ++ [A], rfl, by omega, HDL.out, HO2.out, HB2.out, HL3⟩
    | false =>
      have HL3 : Hid (L = done ++ [A]) := by show _ = _; rw [HL2.out]; simp
      have HST : Hid (Strs w2 v' L) := by
        show Strs w2 v' L
        rw [HL3.out]
        exact Strs.of_owns HO2.out (by simp)
      clear HL2 HSZ HLEN HL3 HO2 hg
      go_wp2
      go_ret
      exact ⟨⟨_, rfl, HST.out⟩, HB2.out⟩
end Go.Proofs.YtndimgajkjkgfaaDoor
