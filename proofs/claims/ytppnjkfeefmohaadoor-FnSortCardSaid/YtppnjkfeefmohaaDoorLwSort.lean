/- A sorted list has the paths in order, among the same ones the versions in theirs, and nothing is lost: the walk of the law FnSort. -/
import Derived.Test.YtppnjkfeefmohaaDoorLwAlive
import Derived.Test.YtppnjkfeefmohaaDoorSpF
import Derived.Test.YtppnjkfeefmohaaDoorSoC
import Derived.Deep.OwnRows
namespace Go.Proofs.YtppnjkfeefmohaaDoor
open Go.RowKit Str
set_option linter.unusedVariables false

theorem info_bool : (Tryd.prog.info? 4).map (fun i => (i.zero, i.size, i.bytes)) = some (some (.bool false), 1, 1) := by kernel_rfl

theorem back_shape (l : List UInt8) : Srt.back l = [] ∨ ∃ t, Srt.back l = 47 :: t := by
  unfold Srt.back
  cases h : l.dropWhile (· != 47) with
  | nil => exact .inl rfl
  | cons c t =>
    right
    have hc : ∀ l : List UInt8, ∀ c t, l.dropWhile (· != (47 : UInt8)) = c :: t → c = 47 := by
      intro l
      induction l with
      | nil => intro c t h; cases h
      | cons d l ih =>
        intro c t h
        rw [List.dropWhile_cons] at h
        split at h
        · exact ih c t h
        · rename_i hd
          cases h
          simpa using hd
    obtain rfl := hc l c t h
    exact ⟨t, rfl⟩

theorem lawcut_calls (s : ByteArray) (w : World) (hs : s.size ≤ 2147483647) :
    Calls Tryd.prog 7 #[.string s] w fun e w' => e = .returned (.tuple #[.string (B (Srt.front s.data.toList)), .string (B (Srt.back s.data.toList))]) ∧ Drew w w' := by
  have hsub : (Srt.back s.data.toList).length ≤ s.size := by
    rw [Lib.size_eq]; exact (List.dropWhile_sublist _).length_le
  rcases back_shape s.data.toList with hb | ⟨t, hb⟩
  · have CC := Lib.hid fun w => Cut_tell (s := s) (a := B (Srt.front s.data.toList)) (b := B []) (c := 47) (ci := 47) (m := false) w rfl (by omega) (by rw [B_data]; rfl) (by rw [B_data]; show (Srt.back s.data.toList).tail = []; rw [hb]; rfl) (by show (!(Srt.back s.data.toList).isEmpty) = false; rw [hb]; rfl)
    rw [hb]
    generalize B (Srt.front s.data.toList) = F at *
    clear hb hsub
    show Calls Tryd.prog 7 #[.string s] w fun e w' => e = .returned (.tuple #[.string F, .string ⟨#[]⟩]) ∧ Drew w w'
    have CC' : Hid (∀ w, Calls Tryd.prog 14 #[.string s, .int .u8 47] w fun e w' => e = .returned (.tuple #[.string F, .string ⟨#[]⟩, .bool false]) ∧ Drew w w') := CC.out
    clear CC
    go_enter Tryd.func7, Tryd.ntmps7
    go_wp2_with fail
    refine (CC'.out _).mono ?_
    rintro e w1 ⟨rfl, d1⟩
    go_wp2
    go_ret2
    exact ⟨rfl, d1⟩
  · have CC := Lib.hid fun w => Cut_tell (s := s) (a := B (Srt.front s.data.toList)) (b := B t) (c := 47) (ci := 47) (m := true) w rfl (by omega) (by rw [B_data]; rfl) (by rw [B_data]; show (Srt.back s.data.toList).tail = t; rw [hb]; rfl) (by show (!(Srt.back s.data.toList).isEmpty) = true; rw [hb]; rfl)
    rw [hb] at hsub ⊢
    have hadd : Op.stringOp .add (⟨#[47]⟩ : ByteArray) (B t) = pure (.string (B (47 :: t))) := str_add (B_append [47] t) (by
      rw [B_size]; have : (⟨#[47]⟩ : ByteArray).size = 1 := rfl; simp at hsub; omega)
    generalize B (Srt.front s.data.toList) = F at *
    generalize B (47 :: t) = K at *
    generalize B t = T at *
    clear hb hsub
    go_enter Tryd.func7, Tryd.ntmps7
    go_wp2_with fail
    refine (CC.out _).mono ?_
    rintro e w1 ⟨rfl, d1⟩
    go_wp2
    go_ret2
    exact ⟨rfl, d1⟩

/-- a pair in a block of its own -/
def XAt (W : World) (u : Nat) (p v : ByteArray) : Prop := u < W.heap.size ∧ W.cell? ⟨u, 0, none⟩ = some (.string p) ∧ W.cell? ⟨u, 1, none⟩ = some (.string v)
theorem XAt.keep {W W' : World} {u : Nat} {p v : ByteArray} (h : XAt W u p v) (k : Bl W W') : XAt W' u p v := ⟨Nat.lt_of_lt_of_le h.1 k.size, (k.cell h.1).trans h.2.1, (k.cell h.1).trans h.2.2⟩
theorem XAt.made (W : World) (p v : ByteArray) (t : TypeId) : XAt (W.alloc (.cells #[.string p, .string v] t)) W.heap.size p v := by
  refine ⟨?_, ?_, ?_⟩
  · show W.heap.size < (W.heap.push _).size
    rw [Array.size_push]; omega
  · unfold World.cell? World.alloc; simp
  · unfold World.cell? World.alloc; simp
theorem XAt.set {W : World} {u g j : Nat} {p v : ByteArray} (h : XAt W u p v) (hg : g ≠ u) (x : Value) : XAt (W.setCell ⟨g, j, none⟩ x) u p v := by
  refine ⟨?_, ?_, ?_⟩
  · show u < (W.heap.modify _ _).size
    rw [Array.size_modify]; exact h.1
  · rw [World.cell?_setCell_other _ _ _ _ (fun e => hg (congrArg Addr.block e))]; exact h.2.1
  · rw [World.cell?_setCell_other _ _ _ _ (fun e => hg (congrArg Addr.block e))]; exact h.2.2

theorem eq_is' (s t : ByteArray) : (s.toList == t.toList) = decide (s = t) := by
  rw [Lib.toList_data, Lib.toList_data, Bool.eq_iff_iff, beq_iff_eq, decide_eq_true_eq]
  exact ⟨fun h => by rw [← B_of s, ← B_of t, h], fun h => by rw [h]⟩

/-- what holds between two rounds of the law's loop -/
def Rd (L out : List (ByteArray × ByteArray)) (n ub : Nat) (w2 : World) (k : Nat) (u : List Bool) (W : World) : Prop :=
  u.length = n ∧ Bits W ub u ∧ ub < W.heap.size ∧ (Srt.left L u).Perm (out.drop k) ∧ Bl w2 W
theorem Rd.keep {L out : List (ByteArray × ByteArray)} {n ub : Nat} {w2 : World} {k : Nat} {u : List Bool} {W W' : World} (h : Rd L out n ub w2 k u W) (g : Bl W W') : Rd L out n ub w2 k u W' :=
  ⟨h.1, h.2.1.keep h.2.2.1 g, Nat.lt_of_lt_of_le h.2.2.1 g.size, h.2.2.2.1, h.2.2.2.2.trans g⟩

set_option maxRecDepth 100000 in
set_option maxHeartbeats 16000000 in
theorem law_FnSort (ga : Option Addr) (b off n c : Nat) (L : List (ByteArray × ByteArray)) (w : World) (hw : Bad w) (hL : L.length = n) (hga : 0 < n → ga = some ⟨b, off, none⟩) (hlie : LieV w b off L) (hXm : n ≤ maxLen) :
    Calls Tryd.prog 3 #[.slice ga n c] w fun e w' => e = .returned (.bool true) ∧ Below w.heap.size w w' := by
  have CZ := Lib.hid (zzFits1_calls ga b off n c L hL hga w hlie hXm)
  have HB := Lib.hid hw
  have LIE := Lib.hid hlie
  have CA : Hid (∀ w, Bad w → Calls Tryd.prog 9 #[] w fun e w' => e = .returned (.bool true) ∧ Gr w w') := fun w hw => alive_calls w hw
  clear hw hlie
  go_enter Tryd.func3, Tryd.ntmps3
  go_wp2_with fail
  refine CZ.out.mono ?_
  rintro e w1 ⟨⟨r, rfl, hr⟩, g1⟩
  have HR := Lib.hid hr
  have G1 := Lib.hid g1
  clear CZ hr g1
  cases r with
  | false =>
    go_wp2
    go_ret
    exact ⟨rfl, G1.out.below⟩
  | true =>
    by_cases h30 : 12 < n
    · have h30' : (12 : Int) < n := by omega
      go_wp2
      go_ret
      exact ⟨rfl, G1.out.below⟩
    have h30' : ¬ (12 : Int) < n := by omega
    clear hXm
    have C1 := Lib.hid (iSort_calls ga b off n c L hL hga w1 (LIE.out.keep (Bl.of_gr G1.out)) (by omega) (HR.out (by trivial)))
    go_wp2_with fail
    refine C1.out.mono ?_
    rintro e w2 ⟨⟨gb2, g, cap, out, rfl, ho, hgo, hlo, hperm, hadj⟩, bel⟩
    have BEL : Hid (Bl w w2) := (Bl.of_gr G1.out).trans bel
    have LO := Lib.hid hlo
    have PERM := Lib.hid hperm
    have ADJ := Lib.hid hadj
    have L2 := Lib.hid (LIE.out.keep BEL.out)
    have HB2 := Lib.hid (HB.out.keepB BEL.out)
    have SZ := Lib.hid (HR.out (by trivial))
    have hmk := run_make_row' (P := Tryd.prog) 25 4 (.bool false) 1 Tryd.underlying25 info_bool rfl .i64 .i64 n (by omega) (by omega)
    clear hlo hperm hadj bel C1 LIE HB G1 HR
    go_wp2
    clear hmk
    go_loopg [33] (n + 1) (fun g v33 wr => ∃ (k : Nat) (u : List Bool), v33 = .int .i64 k ∧ n < k + g ∧ k ≤ n ∧ Hid (Rd L out n w2.heap.size w2 k u wr))
    case atStart =>
      refine ⟨0, List.replicate n false, rfl, by omega, by omega, ⟨by simp, Bits.made _ _ _, ?_, ?_, (Bl.refl _).alloc _⟩⟩
      · show w2.heap.size < (w2.heap.push _).size
        rw [Array.size_push]; omega
      · rw [← hL, Srt.left_all, List.drop_zero]; exact PERM.out.symm
    case round =>
      obtain ⟨k, u, rfl, hg, hk, HI⟩ := hrel
      rename World => wr
      obtain ⟨G, hG⟩ : ∃ G, G = gk := ⟨_, rfl⟩
      have HG := Lib.hid hG
      rw [← hG] at hg
      clear hG
      by_cases hlt : k < n
      · obtain rfl := hga (by omega)
        obtain rfl := hgo (by omega)
        obtain ⟨x, hx⟩ : ∃ x, out[k]? = some x := ⟨_, List.getElem?_eq_getElem (by omega)⟩
        obtain ⟨hc1, hc2⟩ := (LO.out.keep HI.out.2.2.2.2).2 k x hx
        obtain ⟨xp, xv⟩ := x
        have hc1' : wr.cell? ⟨g, k * 2, none⟩ = some (.string xp) := by rw [Nat.zero_add] at hc1; exact hc1
        have hc2' : wr.cell? ⟨g, k * 2 + 1, none⟩ = some (.string xv) := by rw [Nat.zero_add] at hc2; exact hc2
        have HX := Lib.hid hx
        have hlt' : (k : Int) < (n : Int) := by omega
        clear hc1 hc2 hx
        go_wp2
        clear hc1' hc2'
        go_loopg [7, 40] (n + 1) (fun g v7 v40 wi => ∃ (j : Nat) (f : Bool) (v : List Bool), v7 = .bool f ∧ v40 = .int .i64 j ∧ n < j + g ∧ j ≤ n ∧ Hid (Srt.At (xp, xv) L u j f v ∧ Bits wi w2.heap.size v ∧ w2.heap.size < wi.heap.size ∧ Bl w2 wi ∧ XAt wi wr.heap.size xp xv))
        case atStart =>
          have h0 := HI.out.keep ((Bl.refl wr).alloc (.cells #[.string xp, .string xv] 27))
          exact ⟨0, false, u, rfl, rfl, by omega, by omega, ⟨Srt.At.start _ L u, h0.2.1, h0.2.2.1, h0.2.2.2.2, XAt.made _ _ _ _⟩⟩
        case round =>
          obtain ⟨j, f, v, rfl, rfl, hgj, hj, HA⟩ := hrel
          rename World => wi
          by_cases hjn : j < n
          · obtain ⟨y, hy⟩ : ∃ y, L[j]? = some y := ⟨_, List.getElem?_eq_getElem (by omega)⟩
            have hvl : v.length = n := HA.out.1.1.trans HI.out.1
            obtain ⟨q, hq⟩ : ∃ q, v[j]? = some q := ⟨_, List.getElem?_eq_getElem (by omega)⟩
            have hne : w2.heap.size ≠ wr.heap.size := Nat.ne_of_lt HI.out.2.2.1
            obtain ⟨hc1, hc2⟩ := (L2.out.keep HA.out.2.2.2.1).2 j y hy
            obtain ⟨yp, yv⟩ := y
            have hc1' : wi.cell? ⟨b, off + j * 2, none⟩ = some (.string yp) := hc1
            have hc2' : wi.cell? ⟨b, off + j * 2 + 1, none⟩ = some (.string yv) := hc2
            have HA' : Hid (∀ o, Bits (wi.alloc o) w2.heap.size v ∧ w2.heap.size < (wi.alloc o).heap.size ∧ Bl w2 (wi.alloc o) ∧ XAt (wi.alloc o) wr.heap.size xp xv) := fun o =>
              have g0 := (Bl.refl wi).alloc o
              ⟨HA.out.2.1.keep HA.out.2.2.1 g0, Nat.lt_of_lt_of_le HA.out.2.2.1 g0.size, HA.out.2.2.2.1.trans g0, HA.out.2.2.2.2.keep g0⟩
            have hq1 : ∀ o, (wi.alloc o).cell? ⟨w2.heap.size, j, none⟩ = some (.bool q) := fun o => ((HA'.out o).1 j q hq).1
            have hq2 : ∀ o, (wi.alloc o).frozen? ⟨w2.heap.size, j, none⟩ = false := fun o => ((HA'.out o).1 j q hq).2
            have hx1 : ∀ o, (wi.alloc o).cell? ⟨wr.heap.size, 0, none⟩ = some (.string xp) := fun o => (HA'.out o).2.2.2.2.1
            have hx2 : ∀ o, (wi.alloc o).cell? ⟨wr.heap.size, 1, none⟩ = some (.string xv) := fun o => (HA'.out o).2.2.2.2.2
            have hjn' : (j : Int) < (n : Int) := by omega
            have exp := eq_is' xp yp
            have exv := eq_is' xv yv
            have HY := Lib.hid hy
            have HQ := Lib.hid hq
            have HL := Lib.hid hvl
            have HNE := Lib.hid hne
            clear hy hq hvl hc1 hc2 hne
            cases f with
            | true =>
              clear hq1 hq2 hx1 hx2 exp exv
              go_wp2
              go_roundg (gk - 1)
              case measure => omega
              case rel => exact ⟨j + 1, true, v, rfl, by go_num, by omega, by omega, ⟨HA.out.1.keep, HA'.out _⟩⟩
            | false =>
              have HU : Hid (v = u) := HA.out.1.2.1
              cases q with
              | true =>
                clear hx1 hx2 exp exv
                go_wp2
                go_roundg (gk - 1)
                case measure => omega
                case rel => exact ⟨j + 1, false, v, rfl, by go_num, by omega, by omega, ⟨HA.out.1.miss HY.out (by rw [← HU.out]; exact HQ.out) (fun h => by cases h.1), HA'.out _⟩⟩
              | false =>
                by_cases hxy : xp = yp ∧ xv = yv
                · obtain ⟨rfl, rfl⟩ := hxy
                  rw [decide_eq_true rfl] at exp exv
                  have HAt : Hid (Srt.At (xp, xv) L u (j + 1) true (v.set j true)) := HA.out.1.hit HY.out (by rw [← HU.out]; exact HQ.out)
                  have HF : Hid (∀ o, Bits ((wi.alloc o).setCell ⟨w2.heap.size, j, none⟩ (.bool true)) w2.heap.size (v.set j true) ∧ w2.heap.size < ((wi.alloc o).setCell ⟨w2.heap.size, j, none⟩ (.bool true)).heap.size ∧ Bl w2 ((wi.alloc o).setCell ⟨w2.heap.size, j, none⟩ (.bool true)) ∧ XAt ((wi.alloc o).setCell ⟨w2.heap.size, j, none⟩ (.bool true)) wr.heap.size xp xv) := fun o =>
                    ⟨(HA'.out o).1.set true (by rw [HL.out]; omega), by
                      show w2.heap.size < ((wi.alloc o).heap.modify _ _).size
                      rw [Array.size_modify]; exact (HA'.out o).2.1, (HA'.out o).2.2.1.setCell (Nat.le_refl _) _, (HA'.out o).2.2.2.set HNE.out _⟩
                  go_wp2
                  go_roundg (gk - 1)
                  case measure => omega
                  case rel => exact ⟨j + 1, true, v.set j true, rfl, by go_num, by omega, by omega, ⟨HAt.out, HF.out _⟩⟩
                · have HM : Hid (Srt.At (xp, xv) L u (j + 1) false v) := HA.out.1.miss HY.out (by rw [← HU.out]; exact HQ.out) (fun h => hxy ⟨congrArg Prod.fst h.2, congrArg Prod.snd h.2⟩)
                  by_cases hp : xp = yp
                  · have hv : ¬ xv = yv := fun h => hxy ⟨hp, h⟩
                    rw [decide_eq_true hp] at exp
                    rw [decide_eq_false hv] at exv
                    clear hxy hp hv
                    go_wp2
                    go_roundg (gk - 1)
                    case measure => omega
                    case rel => exact ⟨j + 1, false, v, rfl, by go_num, by omega, by omega, ⟨HM.out, HA'.out _⟩⟩
                  · rw [decide_eq_false hp] at exp
                    clear hxy hp exv
                    go_wp2
                    go_roundg (gk - 1)
                    case measure => omega
                    case rel => exact ⟨j + 1, false, v, rfl, by go_num, by omega, by omega, ⟨HM.out, HA'.out _⟩⟩
          · have hjn' : ¬ (j : Int) < (n : Int) := by omega
            have hm := HA.out.1.over (by omega)
            obtain ⟨s1, s2⟩ := Srt.still HI.out.2.2.2.1 HX.out
            rw [hm] at s1 s2
            obtain rfl : f = true := s1
            have HN : Hid (Rd L out n w2.heap.size w2 (k + 1) v wi) := ⟨HA.out.1.1.trans HI.out.1, HA.out.2.1, HA.out.2.2.1, s2, HA.out.2.2.2.1⟩
            have HXA : Hid (XAt wi wr.heap.size xp xv) := HA.out.2.2.2.2
            clear hm s2 hgj HA HI
            by_cases hk0 : k = 0
            · have hk0' : ((k : Int) == 0) = true := by rw [hk0]; rfl
              go_wp2
              go_roundg (G - 1)
              case measure => have := HG.out; omega
              case rel => exact ⟨k + 1, v, by go_num, by omega, by omega, HN⟩
            · have hk0' : ((k : Int) == 0) = false := beq_eq_false_iff_ne.2 (by omega)
              obtain ⟨⟨yp, yv⟩, hy⟩ : ∃ y, out[k - 1]? = some y := ⟨_, List.getElem?_eq_getElem (by omega)⟩
              obtain ⟨a1, a2⟩ := Srt.ordM_asked (ADJ.out (k - 1) (yp, yv) (xp, xv) hy (by rw [show k - 1 + 1 = k by omega]; exact HX.out))
              have A1 : Hid (yp.data.toList ≠ xp.data.toList → Ver.bytes yp.data.toList xp.data.toList ≤ 0) := a1
              have A2 : Hid (yp.data.toList = xp.data.toList → (Srt.front yv.data.toList ≠ Srt.front xv.data.toList → Ver.cmp (Srt.front yv.data.toList) (Srt.front xv.data.toList) ≤ 0) ∧ (Srt.front yv.data.toList = Srt.front xv.data.toList → Ver.bytes (Srt.back yv.data.toList) (Srt.back xv.data.toList) ≤ 0)) := a2
              have hka : ((k : Int) - 1).toNat = k - 1 := by omega
              have hkb : (0 : Int) ≤ (k : Int) - 1 := by omega
              have hkc : (k : Int) - 1 < (n : Int) := by omega
              obtain ⟨hc1, hc2⟩ := (LO.out.keep HN.out.2.2.2.2).2 (k - 1) _ hy
              have hc1' : wi.cell? ⟨g, (k - 1) * 2, none⟩ = some (.string yp) := by rw [Nat.zero_add] at hc1; exact hc1
              have hc2' : wi.cell? ⟨g, (k - 1) * 2 + 1, none⟩ = some (.string yv) := by rw [Nat.zero_add] at hc2; exact hc2
              have hys : yv.size ≤ 2147483647 := (SZ.out _ (PERM.out.subset (List.mem_of_getElem? hy))).2
              have hxs : xv.size ≤ 2147483647 := (SZ.out _ (PERM.out.subset (List.mem_of_getElem? HX.out))).2
              have HXB : Hid (∀ o, XAt (wi.alloc o) wr.heap.size xp xv) := fun o => HXA.out.keep ((Bl.refl wi).alloc o)
              have hx1 : ∀ o, (wi.alloc o).cell? ⟨wr.heap.size, 0, none⟩ = some (.string xp) := fun o => (HXB.out o).2.1
              have hx2 : ∀ o m, ((wi.alloc o).drewN m).cell? ⟨wr.heap.size, 1, none⟩ = some (.string xv) := fun o m => (HXB.out o).2.2
              clear a1 a2 hc1 hc2 hy
              by_cases hpp : yp = xp
              · subst hpp
                obtain ⟨b1, b2⟩ := A2.out rfl
                have exp : (yp.toList == yp.toList) = true := beq_self_eq_true _
                have C1 := Lib.hid fun w => lawcut_calls yv w hys
                have C2 := Lib.hid fun w => lawcut_calls xv w hxs
                have hl1 : (Srt.front yv.data.toList).length ≤ 2147483647 := by
                  have := (List.takeWhile_sublist (· != (47 : UInt8)) (l := yv.data.toList)).length_le
                  unfold Srt.front; rw [← Lib.size_eq] at this; omega
                have hl2 : (Srt.front xv.data.toList).length ≤ 2147483647 := by
                  have := (List.takeWhile_sublist (· != (47 : UInt8)) (l := xv.data.toList)).length_le
                  unfold Srt.front; rw [← Lib.size_eq] at this; omega
                have hb3 := fun h => less_or_eq _ _ (b2 h)
                generalize Srt.front yv.data.toList = f1 at *
                generalize Srt.front xv.data.toList = f2 at *
                generalize Srt.back yv.data.toList = k1 at *
                generalize Srt.back xv.data.toList = k2 at *
                clear A1 A2 b2 hys hxs
                by_cases hf : f1 = f2
                · subst hf
                  have hle : (Op.bytesLess (B k1).toList (B k2).toList || (B k1).toList == (B k2).toList) = true := by
                    rw [B_list, B_list]; exact hb3 rfl
                  have ef : ((B f1).toList == (B f1).toList) = true := beq_self_eq_true _
                  clear hb3 b1 hl1 hl2
                  generalize he1 : Op.bytesLess (B k1).toList (B k2).toList = bl at hle
                  generalize he2 : ((B k1).toList == (B k2).toList) = be at hle
                  generalize B f1 = F1 at *
                  generalize B k1 = K1 at *
                  generalize B k2 = K2 at *
                  cases bl <;> cases be <;> first | cases hle | skip
                  all_goals
                    go_wp2_with fail
                    refine (C1.out _).mono ?_
                    rintro e w3 ⟨rfl, q1, rfl⟩
                    go_wp2_with fail
                    refine (C2.out _).mono ?_
                    rintro e w4 ⟨rfl, q2, rfl⟩
                    go_wp2
                    go_roundg (G - 1)
                    case measure => have := HG.out; omega
                    case rel => exact ⟨k + 1, v, by go_num, by omega, by omega, HN.out.keep (by first | exact (((Bl.refl _).alloc _).drewN _).drewN _ | exact ((Bl.refl _).alloc _).drewN _)⟩
                · have CC : Hid (∀ w, Calls Tryd.prog 8 #[.string (B f1), .string (B f2)] w fun e w' => e = .returned (.int .i64 (Ver.cmp f1 f2)) ∧ Gr w w') := fun w => by
                    have := spCompare_calls (B f1) (B f2) w (by rw [B_size]; omega) (by rw [B_size]; omega)
                    rwa [B_data, B_data] at this
                  have hcz := b1 hf
                  have ef : ((B f1).toList == (B f2).toList) = false := by rw [B_list, B_list]; exact beq_eq_false_iff_ne.2 hf
                  clear hb3 b1 hl1 hl2 hf
                  generalize Ver.cmp f1 f2 = cz at *
                  generalize B f1 = F1 at *
                  generalize B f2 = F2 at *
                  generalize B k1 = K1 at *
                  generalize B k2 = K2 at *
                  have hz2 : ¬ (0 : Int) < cz := by omega
                  clear hcz
                  go_wp2_with fail
                  refine (C1.out _).mono ?_
                  rintro e w3 ⟨rfl, q1, rfl⟩
                  go_wp2_with fail
                  refine (C2.out _).mono ?_
                  rintro e w4 ⟨rfl, q2, rfl⟩
                  go_wp2_with fail
                  refine (CC.out _).mono ?_
                  rintro e w5 ⟨rfl, g5⟩
                  have HN5 : Hid (Rd L out n w2.heap.size w2 (k + 1) v w5) := HN.out.keep (by first | exact ((((Bl.refl _).alloc _).drewN _).drewN _).gr g5 | exact (((Bl.refl _).alloc _).drewN _).gr g5)
                  clear g5 HN
                  go_wp2
                  go_roundg (G - 1)
                  case measure => have := HG.out; omega
                  case rel => exact ⟨k + 1, v, by go_num, by omega, by omega, HN5⟩
              · have hpd : yp.data.toList ≠ xp.data.toList := fun h => hpp (by rw [← B_of yp, ← B_of xp, h])
                have exp : (yp.toList == xp.toList) = false := by rw [eq_is', decide_eq_false hpp]
                have hle := less_or_eq _ _ (A1.out hpd)
                rw [← Lib.toList_data, ← Lib.toList_data, exp, Bool.or_false] at hle
                clear hpp hpd A1 A2 hys hxs hx2
                go_wp2
                go_roundg (G - 1)
                case measure => have := HG.out; omega
                case rel => exact ⟨k + 1, v, by go_num, by omega, by omega, HN.out.keep ((Bl.refl _).alloc _)⟩
      · have hlt' : ¬ (k : Int) < (n : Int) := by omega
        have BW : Hid (Bl w2 wr) := HI.out.2.2.2.2
        have hbw := Lib.hid (HB2.out.keepB BW.out)
        clear hg HI
        go_wp2_with fail
        refine (CA.out _ hbw.out).mono ?_
        rintro e w5 ⟨rfl, g5⟩
        go_wp2
        go_ret
        exact ⟨rfl, (BEL.out.trans BW.out).gr g5⟩
end Go.Proofs.YtppnjkfeefmohaaDoor
