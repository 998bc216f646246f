/- Walks of the reference's Lower and reserved; bytes in a slice of the call's own. -/
import Derived.Test.YtndimgajkjkgfaaDoorSpH
import Derived.Laws.IdiomStrings
import Derived.Laws.BytesArg
namespace Go.Proofs.YtndimgajkjkgfaaDoor
open Go.RowKit Str
set_option linter.unusedVariables false

/-- bytes as cells -/
def bcells (l : List UInt8) : List Value := l.map fun c => .int .u8 c.toNat
theorem bcells_len (l : List UInt8) : (bcells l).length = l.length := by unfold bcells; simp
theorem bcells_snoc (l : List UInt8) (c : UInt8) : bcells (l ++ [c]) = bcells l ++ [.int .u8 c.toNat] := by unfold bcells; simp

theorem conv_owned {W : World} {base : Nat} {v : Value} {l : List UInt8} (h : W.ownsRow base 5 1 v l.length (bcells l)) :
    (convert 43 9 v).run Tryd.prog W = .ok (.string (B l)) W := by
  have hc := fun g hg => World.ownsRow.cells h (g := g) hg
  obtain ⟨_, h2⟩ := h
  rcases h2 with ⟨rfl, h0⟩ | ⟨g, cap, cur, rfl, hb, hg, hn, _, _, _⟩
  · have : l = [] := List.eq_nil_of_length_eq_zero h0
    subst this
    exact run_convert_bytes_nil (P := Tryd.prog) W 43 5 Tryd.underlying43 Tryd.underlying5 0 0 9 Tryd.underlying9
  · exact run_convert_bytes_back (P := Tryd.prog) W 43 9 5 ⟨g, 0, none⟩ cap l Tryd.underlying43 Tryd.underlying5 Tryd.underlying9 (fun j hj => hc g rfl j _ (by unfold bcells; rw [List.getElem?_map, List.getElem?_eq_getElem hj]; rfl))

theorem one_cell_u8 (z : Int) : ∀ u ∈ [Value.int .u8 z], u.oneCell' = true := by intro u hu; simp at hu; subst hu; rfl
theorem one_cell_str (z : ByteArray) : ∀ u ∈ [Value.string z], u.oneCell' = true := by intro u hu; simp at hu; subst hu; rfl

set_option maxRecDepth 100000 in
set_option maxHeartbeats 4000000 in
theorem Lower_calls (s : ByteArray) (w : World) (hs : s.size ≤ 1000) :
    Calls Tryd.prog 61 #[.string s] w fun e w' => e = .returned (.string (B (s.data.toList.map Pe.low))) ∧ Bl w w' := by
  obtain ⟨i0, hi, hz0, hz1, hz2⟩ := info_parts info_u8
  have HL := Lib.hid (Lib.size_eq s)
  go_enter Tryd.func61, Tryd.ntmps61
  go_wp2
  go_loopg [3, 9] (s.size + 1) (fun g v3 v9 wr => ∃ (k : Nat) (done : List UInt8), v9 = .int .i64 k ∧ s.size < k + g ∧ k ≤ s.size ∧ wr.ownsRow w.heap.size 5 1 v3 done.length (bcells done) ∧ Bl w wr ∧ Hid (done = (s.data.toList.take k).map Pe.low))
  case atStart =>
    refine ⟨0, [], rfl, by omega, by omega, ?_, (Bl.refl w).alloc _, by show _ = _; simp⟩
    exact World.ownsRow_made w #[] 0 (Nat.le_refl _) (Nat.zero_le _) rfl
  case round =>
    obtain ⟨k, done, rfl, hg, hk, hown, hbl, HD⟩ := hrel
    have hdl : done.length = k := by rw [HD.out, List.length_map, List.length_take, ← HL.out]; omega
    by_cases hlt : k < s.size
    · obtain ⟨d, hd⟩ : ∃ d : UInt8, s[k]'hlt = d := ⟨_, rfl⟩
      have hd256 := d.toNat_lt
      have hl : k < s.data.toList.length := by rw [← Lib.size_eq]; exact hlt
      have hdd : s.data.toList[k] = d := Option.some.inj ((List.getElem?_eq_getElem hl).symm.trans (byte_at' s k hlt hd))
      have HN : Hid (done ++ [Pe.low d] = (s.data.toList.take (k + 1)).map Pe.low) := by
        show _ = _; rw [HD.out, List.take_succ_eq_append_getElem hl, hdd, List.map_append]; rfl
      have HLO := Lib.hid (Pe.low_nat d)
      have HLEN : Hid ((done ++ [Pe.low d]).length = done.length + 1) := by show _ = _; simp
      have HDL := Lib.hid hdl
      have HBL := Lib.hid hbl
      have hlen : done.length ≤ 1000 := by omega
      clear HD hl hdd hdl hbl
      by_cases hup : 65 ≤ d.toNat ∧ d.toNat ≤ 90
      · have HX : Hid (bcells (done ++ [Pe.low d]) = bcells done ++ [.int .u8 ((d.toNat : Int) + 32)]) := by
          show _ = _; rw [bcells_snoc, HLO.out, if_pos hup]; rfl
        obtain ⟨u1, u2⟩ := hup
        have hwr : IntKind.u8.wrap ((d.toNat : Int) + 32) = (d.toNat : Int) + 32 := by unfold IntKind.wrap; simp [IntKind.bits, IntKind.signed]; omega
        clear HLO
        go_wp2_with (first
          | (at_builtin; refine wpList_append_own _ rfl _ _ 43 rfl w.heap.size 5 i0 (.int .u8 0) 1 1 Tryd.underlying43 hi hz0 hz1 hz2 rfl (by decide) _ _ _ rfl (hown.alloc _) ⟨wr.heap.size, 0, none⟩ 1 1 [_] rfl rfl (cell_one _ _ _) (one_cell_u8 _) ?c3 ?c4 ?c5 ?_))
        case c3 => unfold maxLen; omega
        case c4 => omega
        case c5 => have := HBL.out.size; simp; omega
        intro v' w2 hown' hgrow _
        have hrow : ∀ k, Value.ownBlock _ = some k → w.heap.size ≤ k := fun k hk => (hown.lt k hk).1
        have HB2 := Lib.hid ((HBL.out.alloc _).grown hgrow hrow)
        have HO2 : Hid (w2.ownsRow w.heap.size 5 1 v' (done ++ [Pe.low d]).length (bcells (done ++ [Pe.low d]))) := by
          rw [HLEN.out, HX.out]; exact hown'
        clear hown hown' hgrow hrow HBL HX HLEN
        go_wp2
        go_roundg (gk - 1)
        case measure => omega
        case rel => exact ⟨k + 1, done ++ [Pe.low d], by go_num, by omega, by omega, HO2.out, HB2.out, HN⟩
      · have HX : Hid (bcells (done ++ [Pe.low d]) = bcells done ++ [.int .u8 (d.toNat : Int)]) := by
          show _ = _; rw [bcells_snoc, HLO.out, if_neg hup]
        have dways : d.toNat < 65 ∨ 90 < d.toNat := by omega
        clear HLO hup
        rcases dways with hdw | hdw
        all_goals
          go_wp2_with (first
            | (at_builtin; refine wpList_append_own _ rfl _ _ 43 rfl w.heap.size 5 i0 (.int .u8 0) 1 1 Tryd.underlying43 hi hz0 hz1 hz2 rfl (by decide) _ _ _ rfl (hown.alloc _) ⟨wr.heap.size, 0, none⟩ 1 1 [_] rfl rfl (cell_one _ _ _) (one_cell_u8 _) (by unfold maxLen; omega) (by omega) (by have := HBL.out.size; simp; omega) ?_))
          intro v' w2 hown' hgrow _
          have hrow : ∀ k, Value.ownBlock _ = some k → w.heap.size ≤ k := fun k hk => (hown.lt k hk).1
          have HB2 := Lib.hid ((HBL.out.alloc _).grown hgrow hrow)
          have HO2 : Hid (w2.ownsRow w.heap.size 5 1 v' (done ++ [Pe.low d]).length (bcells (done ++ [Pe.low d]))) := by
            rw [HLEN.out, HX.out]; exact hown'
          clear hown hown' hgrow hrow HBL HX HLEN
          go_wp2
          go_roundg (gk - 1)
          case measure => omega
          case rel => exact ⟨k + 1, done ++ [Pe.low d], by go_num, by omega, by omega, HO2.out, HB2.out, HN⟩
    · have HV : Hid (s.data.toList.map Pe.low = done) := by
        show _ = _; rw [HD.out, List.take_of_length_le (by rw [← Lib.size_eq]; omega)]
      have hcv := conv_owned hown
      have HBL := Lib.hid hbl
      clear HD hown hbl hg hdl
      go_wp2
      go_ret
      exact ⟨by rw [HV.out]; rfl, HBL.out⟩

set_option maxRecDepth 100000 in
set_option maxHeartbeats 4000000 in
theorem reserved_calls (s : ByteArray) (b : Bool) (h : Pe.reserved s.data.toList = b) (w : World) (hs : s.size ≤ 1000) :
    Calls Tryd.prog 43 #[.string s] w fun e w' => e = .returned (.bool b) ∧ Bl w w' := by
  obtain ⟨m, hm⟩ : ∃ m, s.data.toList.map Pe.low = m := ⟨_, rfl⟩
  have CL := Lib.hid fun w => Lower_calls s w hs
  unfold Pe.reserved at h
  rw [hm] at CL h
  obtain ⟨M, hM⟩ : ∃ M, M = B m := ⟨_, rfl⟩
  have hMl : M.data.toList = m := by rw [hM, B_data]
  have q : ∀ x : List UInt8, (M.toList == x) = (m == x) := fun x => by rw [Lib.toList_data, hMl]
  rw [← hM] at CL
  cases hf : Pe.four m with
  | true =>
    obtain rfl : b = true := by rw [← h, hf]; rfl
    unfold Pe.four at hf
    simp only [Bool.or_eq_true, beq_iff_eq] at hf
    clear h hm hM hMl
    rcases hf with rfl | rfl | rfl | rfl
    · have q1 : (M.toList == ([99, 111, 110] : List UInt8)) = true := (q [99, 111, 110]).trans rfl
      clear q
      go_enter Tryd.func43, Tryd.ntmps43
      go_wp2_with fail
      refine (CL.out _).mono ?_
      rintro e w1 ⟨rfl, g1⟩
      go_wp2
      go_ret
      exact ⟨rfl, g1⟩
    · have q1 : (M.toList == ([99, 111, 110] : List UInt8)) = false := (q [99, 111, 110]).trans rfl
      have q2 : (M.toList == ([112, 114, 110] : List UInt8)) = true := (q [112, 114, 110]).trans rfl
      clear q
      go_enter Tryd.func43, Tryd.ntmps43
      go_wp2_with fail
      refine (CL.out _).mono ?_
      rintro e w1 ⟨rfl, g1⟩
      go_wp2
      go_ret
      exact ⟨rfl, g1⟩
    · have q1 : (M.toList == ([99, 111, 110] : List UInt8)) = false := (q [99, 111, 110]).trans rfl
      have q2 : (M.toList == ([112, 114, 110] : List UInt8)) = false := (q [112, 114, 110]).trans rfl
      have q3 : (M.toList == ([97, 117, 120] : List UInt8)) = true := (q [97, 117, 120]).trans rfl
      clear q
      go_enter Tryd.func43, Tryd.ntmps43
      go_wp2_with fail
      refine (CL.out _).mono ?_
      rintro e w1 ⟨rfl, g1⟩
      go_wp2
      go_ret
      exact ⟨rfl, g1⟩
    · have q1 : (M.toList == ([99, 111, 110] : List UInt8)) = false := (q [99, 111, 110]).trans rfl
      have q2 : (M.toList == ([112, 114, 110] : List UInt8)) = false := (q [112, 114, 110]).trans rfl
      have q3 : (M.toList == ([97, 117, 120] : List UInt8)) = false := (q [97, 117, 120]).trans rfl
      have q4 : (M.toList == ([110, 117, 108] : List UInt8)) = true := (q [110, 117, 108]).trans rfl
      clear q
      go_enter Tryd.func43, Tryd.ntmps43
      go_wp2_with fail
      refine (CL.out _).mono ?_
      rintro e w1 ⟨rfl, g1⟩
      go_wp2
      go_ret
      exact ⟨rfl, g1⟩
  | false =>
    have hf2 := hf
    unfold Pe.four at hf2
    simp only [Bool.or_eq_false_iff] at hf2
    obtain ⟨f1, f2, f3, f4⟩ := hf2
    have q1 : (M.toList == ([99, 111, 110] : List UInt8)) = false := (q _).trans f1
    have q2 : (M.toList == ([112, 114, 110] : List UInt8)) = false := (q _).trans f2
    have q3 : (M.toList == ([97, 117, 120] : List UInt8)) = false := (q _).trans f3
    have q4 : (M.toList == ([110, 117, 108] : List UInt8)) = false := (q _).trans f4
    rw [hf, Bool.false_or] at h
    unfold Pe.num4 at h
    have hMs : M.size = m.length := by rw [hM, B_size]
    by_cases h4 : m.length = 4
    · obtain ⟨a, c, d, x, rfl⟩ : ∃ a c d x, m = [a, c, d, x] := by
        match m, h4 with
        | [a, c, d, x], _ => exact ⟨a, c, d, x, rfl⟩
      have e4 : ((M.size : Int) == 4) = true := beq_iff_eq.2 (by omega)
      have hp3 : 3 < M.size := by omega
      have hle : (3 : Int) ≤ (M.size : Int) := by omega
      have h3 : M[3]'hp3 = x := by
        have := byte_at M 3 hp3
        rw [hMl] at this; exact (Option.some.inj this).symm
      obtain ⟨X, hX⟩ : ∃ X, M.extract 0 3 = X := ⟨_, rfl⟩
      have hXl : X.toList = [a, c, d] := by rw [← hX, Lib.toList_data, ext_front, hMl]; rfl
      obtain ⟨p1, hp1⟩ : ∃ p, ([a, c, d] == [99, 111, 109]) = p := ⟨_, rfl⟩
      obtain ⟨p2, hp2⟩ : ∃ p, ([a, c, d] == [108, 112, 116]) = p := ⟨_, rfl⟩
      have x1 : (X.toList == ([99, 111, 109] : List UInt8)) = p1 := by rw [hXl]; exact hp1
      have x2 : (X.toList == ([108, 112, 116] : List UInt8)) = p2 := by rw [hXl]; exact hp2
      have hh : b = ((p1 || p2) && decide (49 ≤ x.toNat ∧ x.toNat ≤ 57)) := by
        rw [← h, ← hp1, ← hp2]; rfl
      have HH := Lib.hid hh
      clear h hm hM hMl q hf f1 f2 f3 f4 hMs h4 hXl hp1 hp2 hh
      by_cases hx : 49 ≤ x.toNat ∧ x.toNat ≤ 57
      · have HH2 : Hid (b = (p1 || p2)) := by show _ = _; rw [HH.out, decide_eq_true hx, Bool.and_true]
        obtain ⟨u1, u2⟩ := hx
        clear HH
        cases p1 <;> cases p2
        all_goals
          have HB := HH2.out
          subst HB
          clear HH2
          go_enter Tryd.func43, Tryd.ntmps43
          go_wp2_with fail
          refine (CL.out _).mono ?_
          rintro e w1 ⟨rfl, g1⟩
          go_wp2
          go_ret
          exact ⟨ret_bool (by first | rfl | (simp; omega)), g1⟩
      · obtain rfl : b = false := by rw [HH.out, decide_eq_false hx, Bool.and_false]
        have xways : x.toNat < 49 ∨ 57 < x.toNat := by omega
        clear HH hx
        cases p1 <;> cases p2 <;> rcases xways with hxw | hxw
        all_goals
          go_enter Tryd.func43, Tryd.ntmps43
          go_wp2_with fail
          refine (CL.out _).mono ?_
          rintro e w1 ⟨rfl, g1⟩
          go_wp2
          go_ret
          exact ⟨ret_bool (by first | rfl | (simp; omega)), g1⟩
    · have e4 : ((M.size : Int) == 4) = false := beq_eq_false_iff_ne.2 (by omega)
      obtain rfl : b = false := by rw [← h, decide_eq_false h4]; rfl
      clear h hm hM hMl q hf f1 f2 f3 f4 hMs h4
      go_enter Tryd.func43, Tryd.ntmps43
      go_wp2_with fail
      refine (CL.out _).mono ?_
      rintro e w1 ⟨rfl, g1⟩
      go_wp2
      go_ret
      exact ⟨ret_bool (by first | rfl | (simp; omega)), g1⟩
end Go.Proofs.YtndimgajkjkgfaaDoor
