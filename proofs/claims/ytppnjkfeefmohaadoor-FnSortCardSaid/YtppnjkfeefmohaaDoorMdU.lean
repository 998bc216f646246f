/- Walks of package module's Sort: its comparison, and the sort of at most twelve by the kit's contract of slices.SortFunc. -/
import Derived.Test.YtppnjkfeefmohaaDoorSvJ
import Derived.Test.YtppnjkfeefmohaaDoorSrtM
import Derived.Test.YtppnjkfeefmohaaDoorMdA
import Derived.Deep.QuietTactic
import Derived.BigQuiet
namespace Go.Proofs.YtppnjkfeefmohaaDoor
open Go.RowKit Str Go.Sort
set_option linter.unusedVariables false

theorem bytes_told : ∀ l m : List UInt8, Ver.bytes l m = if Op.bytesLess l m = true then -1 else if l = m then 0 else 1
  | [], [] => rfl
  | [], _ :: _ => rfl
  | _ :: _, [] => rfl
  | a :: l, b :: m => by
    have ih := bytes_told l m
    unfold Ver.bytes at *
    rw [Cmp.list, Op.bytesLess]
    unfold Cmp.num
    have e1 : (a < b) ↔ ((a.toNat : Int) < (b.toNat : Int)) := by rw [UInt8.lt_iff_toNat_lt]; omega
    have e2 : (b < a) ↔ ((b.toNat : Int) < (a.toNat : Int)) := by rw [UInt8.lt_iff_toNat_lt]; omega
    by_cases h1 : a < b
    · rw [if_pos (e1.1 h1), if_neg (by decide), show decide (a < b) = true from decide_eq_true h1]; simp
    · by_cases h2 : b < a
      · have hne : a ≠ b := fun h => by subst h; exact UInt8.lt_irrefl _ h2
        rw [if_neg (fun h => h1 (e1.2 h)), if_pos (e2.1 h2), if_neg (by decide), show decide (a < b) = false from decide_eq_false h1, show (a == b) = false from beq_eq_false_iff_ne.2 hne]
        simp [hne]
      · have n1 : ¬ ((a.toNat : Int) < (b.toNat : Int)) := fun h => h1 (e1.2 h)
        have n2 : ¬ ((b.toNat : Int) < (a.toNat : Int)) := fun h => h2 (e2.2 h)
        have hab : a = b := UInt8.toNat_inj.1 (by omega)
        subst hab
        rw [if_neg n1, if_neg n1, if_pos rfl]
        show Cmp.list (fun a b => Cmp.num (UInt8.toNat a) (UInt8.toNat b)) l m = _
        rw [ih]
        simp

theorem isNaN_calls (s : ByteArray) (w : World) : Calls Tryd.prog 41 #[.string s] w fun e w' => e = .returned (.bool false) ∧ w = w' := by
  have e : (s.toList == s.toList) = true := beq_self_eq_true _
  go_enter Tryd.func41, Tryd.ntmps41
  go_wp2
  go_ret
  exact ⟨rfl, rfl⟩

theorem cmpStr_calls (s t : ByteArray) (w : World) : Calls Tryd.prog 27 #[.string s, .string t] w fun e w' => e = .returned (.int .i64 (Ver.bytes s.data.toList t.data.toList)) ∧ w = w' := by
  have CN := Lib.hid fun s w => isNaN_calls s w
  rw [bytes_told]
  by_cases h1 : Op.bytesLess s.data.toList t.data.toList = true
  · rw [if_pos h1]
    have e1 : Op.bytesLess s.toList t.toList = true := by rw [Lib.toList_data, Lib.toList_data]; exact h1
    go_enter Tryd.func27, Tryd.ntmps27
    go_wp2_with fail
    refine (CN.out _ _).mono ?_
    rintro e w' ⟨rfl, rfl⟩
    go_wp2_with fail
    refine (CN.out _ _).mono ?_
    rintro e w' ⟨rfl, rfl⟩
    go_wp2
    go_ret
    exact ⟨rfl, rfl⟩
  · rw [if_neg h1]
    have e1 : Op.bytesLess s.toList t.toList = false := by rw [Lib.toList_data, Lib.toList_data]; simpa using h1
    by_cases h2 : s.data.toList = t.data.toList
    · rw [if_pos h2]
      have e2 : (s.toList == t.toList) = true := by rw [Lib.toList_data, Lib.toList_data, h2]; exact beq_self_eq_true _
      clear h1 h2
      go_enter Tryd.func27, Tryd.ntmps27
      go_wp2_with fail
      refine (CN.out _ _).mono ?_
      rintro e w' ⟨rfl, rfl⟩
      go_wp2_with fail
      refine (CN.out _ _).mono ?_
      rintro e w' ⟨rfl, rfl⟩
      go_wp2
      go_ret
      exact ⟨rfl, rfl⟩
    · rw [if_neg h2]
      have e2 : (s.toList == t.toList) = false := by rw [Lib.toList_data, Lib.toList_data]; exact beq_eq_false_iff_ne.2 h2
      clear h1 h2
      go_enter Tryd.func27, Tryd.ntmps27
      go_wp2_with fail
      refine (CN.out _ _).mono ?_
      rintro e w' ⟨rfl, rfl⟩
      go_wp2_with fail
      refine (CN.out _ _).mono ?_
      rintro e w' ⟨rfl, rfl⟩
      go_wp2
      go_ret
      exact ⟨rfl, rfl⟩

theorem ext_front' (s : ByteArray) (j : Nat) : (s.extract 0 j).data.toList = s.data.toList.take j := by
  rw [Lib.extract_data]; simp

theorem while_all {p : UInt8 → Bool} : ∀ l : List UInt8, (∀ c ∈ l, p c = true) → l.takeWhile p = l ∧ l.dropWhile p = []
  | [], _ => ⟨rfl, rfl⟩
  | c :: l, h => by
    have hc := h c List.mem_cons_self
    have ih := while_all l fun d hd => h d (List.mem_cons_of_mem _ hd)
    constructor
    · rw [List.takeWhile_cons, if_pos hc, ih.1]
    · rw [List.dropWhile_cons, if_pos hc, ih.2]

theorem slash_cut (s : ByteArray) : (idxV [47] s.data.toList = -1 ∧ Srt.front s.data.toList = s.data.toList ∧ Srt.back s.data.toList = []) ∨
    (∃ j : Nat, idxV [47] s.data.toList = (j : Int) ∧ j ≤ s.size ∧ Srt.front s.data.toList = (s.extract 0 j).data.toList ∧ Srt.back s.data.toList = (s.extract j s.size).data.toList) := by
  unfold idxV Srt.front Srt.back
  rw [idx_one]
  generalize hl : s.data.toList = l
  by_cases h : (47 : UInt8) ∈ l
  · right
    rw [if_pos h]
    have hle : (l.takeWhile (· != 47)).length ≤ l.length := (List.takeWhile_sublist _).length_le
    have happ := List.takeWhile_append_dropWhile (p := (· != (47 : UInt8))) (l := l)
    refine ⟨_, rfl, by rw [Lib.size_eq, hl]; exact hle, ?_, ?_⟩
    · rw [Lib.extract_data, hl]
      have := List.take_left (l₁ := l.takeWhile (· != (47 : UInt8))) (l₂ := l.dropWhile (· != (47 : UInt8)))
      rw [happ] at this
      simp [this]
    · rw [Lib.extract_to_end, hl]
      have := List.drop_left (l₁ := l.takeWhile (· != (47 : UInt8))) (l₂ := l.dropWhile (· != (47 : UInt8)))
      rw [happ] at this
      exact this.symm
  · left
    rw [if_neg h]
    have hall : ∀ c ∈ l, (c != 47) = true := fun c hc => bne_iff_ne.2 (fun e => h (e ▸ hc))
    exact ⟨rfl, (while_all l hall).1, (while_all l hall).2⟩

set_option maxHeartbeats 4000000 in
theorem less_calls (p v q u : ByteArray) (W : World) (hp : p.size ≤ 140737488351232) (hv : v.size ≤ 140737488351232) (hq : q.size ≤ 140737488351232) (hu : u.size ≤ 140737488351232) :
    Calls Tryd.prog 23 #[.agg #[.string p, .string v], .agg #[.string q, .string u]] W fun e w' =>
      e = .returned (.int .i64 (Srt.ordM (p.data.toList, v.data.toList) (q.data.toList, u.data.toList))) ∧ Gr W w' := by
  unfold Srt.ordM
  by_cases hpq : p.data.toList = q.data.toList
  case neg =>
    have e0 : (p.toList == q.toList) = false := by rw [Lib.toList_data, Lib.toList_data]; exact beq_eq_false_iff_ne.2 hpq
    have C2 := Lib.hid fun w => strings_Compare p q w
    rw [Srt.bytes_same] at C2
    show Calls _ _ _ _ fun e w' => e = .returned (.int .i64 (if p.data.toList = q.data.toList then _ else _)) ∧ Gr W w'
    rw [if_neg hpq]
    generalize Ver.bytes p.data.toList q.data.toList = r at *
    clear hpq
    go_enter Tryd.func23, Tryd.ntmps23
    go_wp2_with fail
    refine (C2.out _).mono ?_
    rintro e w' ⟨rfl, rfl⟩
    go_wp2
    go_ret
    exact ⟨rfl, ((Gr.refl _).alloc _).alloc _⟩
  case pos =>
    obtain rfl : p = q := by rw [← B_of p, ← B_of q, hpq]
    have e0 : (p.toList == p.toList) = true := beq_self_eq_true _
    show Calls _ _ _ _ fun e w' => e = .returned (.int .i64 (if p.data.toList = p.data.toList then _ else _)) ∧ Gr W w'
    rw [if_pos rfl]
    have CV := Lib.hid fun w => zzIndex_calls v ⟨#[47]⟩ w hv (by decide) (by decide)
    have CU := Lib.hid fun w => zzIndex_calls u ⟨#[47]⟩ w hu (by decide) (by decide)
    have CV' : Hid (∀ w, Calls Tryd.prog 25 #[.string v, .string ⟨#[47]⟩] w fun e w' => e = .returned (.int .i64 (idxV [47] v.data.toList)) ∧ w = w') := CV.out
    have CU' : Hid (∀ w, Calls Tryd.prog 25 #[.string u, .string ⟨#[47]⟩] w fun e w' => e = .returned (.int .i64 (idxV [47] u.data.toList)) ∧ w = w') := CU.out
    clear CV CU hpq
    have CCm := Lib.hid fun s t w hs ht => Compare_calls s t w hs ht
    have CSt := Lib.hid fun s t w => cmpStr_calls s t w
    rcases slash_cut v with ⟨i1, f1, k1⟩ | ⟨j, i1, hj, f1, k1⟩
    all_goals rcases slash_cut u with ⟨i2, f2, k2⟩ | ⟨j', i2, hj', f2, k2⟩
    all_goals rw [i1] at CV'
    all_goals rw [i2] at CU'
    all_goals rw [f1, k1, f2, k2]
    all_goals clear i1 i2 f1 k1 f2 k2
    case inl.inl =>
      have CC := Lib.hid fun w => CCm.out v u w hv hu
      have CS := Lib.hid fun w => CSt.out ⟨#[]⟩ ⟨#[]⟩ w
      have CS' : Hid (∀ w, Calls Tryd.prog 27 #[.string ⟨#[]⟩, .string ⟨#[]⟩] w fun e w' => e = .returned (.int .i64 (Ver.bytes [] [])) ∧ w = w') := CS.out
      clear CS CCm CSt
      generalize Ver.bytes [] [] = r1 at *
      generalize hc : Ver.cmp v.data.toList u.data.toList = r2 at *
      by_cases he : v.data.toList = u.data.toList
      · rw [if_pos he]
        have e2 : (v.toList == u.toList) = true := by rw [Lib.toList_data, Lib.toList_data, he]; exact beq_self_eq_true _
        clear he hc
        go_enter Tryd.func23, Tryd.ntmps23
        go_wp2_with fail
        refine (CV'.out _).mono ?_
        rintro e w' ⟨rfl, rfl⟩
        go_wp2_with fail
        refine (CU'.out _).mono ?_
        rintro e w' ⟨rfl, rfl⟩
        go_wp2_with fail
        refine (CS'.out _).mono ?_
        rintro e w' ⟨rfl, rfl⟩
        go_wp2
        go_ret
        exact ⟨rfl, ((Gr.refl _).alloc _).alloc _⟩
      · rw [if_neg he]
        have e2 : (v.toList == u.toList) = false := by rw [Lib.toList_data, Lib.toList_data]; exact beq_eq_false_iff_ne.2 he
        clear he hc
        go_enter Tryd.func23, Tryd.ntmps23
        go_wp2_with fail
        refine (CV'.out _).mono ?_
        rintro e w' ⟨rfl, rfl⟩
        go_wp2_with fail
        refine (CU'.out _).mono ?_
        rintro e w' ⟨rfl, rfl⟩
        go_wp2_with fail
        refine (CC.out _).mono ?_
        rintro e w' ⟨rfl, g3⟩
        go_wp2
        go_ret
        exact ⟨rfl, (((Gr.refl _).alloc _).alloc _).trans g3⟩
    case inl.inr =>
      have zk : (j' : Int) ≤ (u.size : Int) := by omega
      have zk0 : (0 : Int) ≤ (j' : Int) := by omega
      have hF : v.size ≤ 140737488351232 := by exact hv
      have hG : (u.extract 0 j').size ≤ 140737488351232 := by rw [Lib.size_eq, ext_front', List.length_take, ← Lib.size_eq]; omega
      have CC := Lib.hid fun w => CCm.out v (u.extract 0 j') w hF hG
      have CS : Hid (∀ w, Calls Tryd.prog 27 #[.string (⟨#[]⟩ : ByteArray), .string (u.extract j' u.size)] w fun e w' => e = .returned (.int .i64 (Ver.bytes [] (u.extract j' u.size).data.toList)) ∧ w = w') := fun w => CSt.out (⟨#[]⟩ : ByteArray) (u.extract j' u.size) w
      have hGo : ∃ G, u.extract 0 j' = G := ⟨_, rfl⟩
      have hHo : ∃ H, u.extract j' u.size = H := ⟨_, rfl⟩
      obtain ⟨G, hGe⟩ := hGo
      obtain ⟨H, hHe⟩ := hHo
      rw [hGe] at CC ⊢
      rw [hHe] at CS ⊢
      clear CCm CSt hF hG
      generalize Ver.bytes [] H.data.toList = r1 at *
      generalize hc : Ver.cmp v.data.toList G.data.toList = r2 at *
      by_cases he : v.data.toList = G.data.toList
      · rw [if_pos he]
        have e2 : (v.toList == G.toList) = true := by rw [Lib.toList_data, Lib.toList_data, he]; exact beq_self_eq_true _
        clear he hc
        go_enter Tryd.func23, Tryd.ntmps23
        go_wp2_with fail
        refine (CV'.out _).mono ?_
        rintro e w' ⟨rfl, rfl⟩
        go_wp2_with fail
        refine (CU'.out _).mono ?_
        rintro e w' ⟨rfl, rfl⟩
        go_wp2_with fail
        go_quiet (fail)
        go_wp2_with fail
        refine (CS.out _).mono ?_
        rintro e w' ⟨rfl, rfl⟩
        go_wp2
        go_ret
        exact ⟨rfl, (((Gr.refl _).alloc _).alloc _).drewN _⟩
      · rw [if_neg he]
        have e2 : (v.toList == G.toList) = false := by rw [Lib.toList_data, Lib.toList_data]; exact beq_eq_false_iff_ne.2 he
        clear he hc
        go_enter Tryd.func23, Tryd.ntmps23
        go_wp2_with fail
        refine (CV'.out _).mono ?_
        rintro e w' ⟨rfl, rfl⟩
        go_wp2_with fail
        refine (CU'.out _).mono ?_
        rintro e w' ⟨rfl, rfl⟩
        go_wp2_with fail
        go_quiet (fail)
        go_wp2_with fail
        refine (CC.out _).mono ?_
        rintro e w' ⟨rfl, g3⟩
        go_wp2
        go_ret
        exact ⟨rfl, ((((Gr.refl _).alloc _).alloc _).drewN _).trans g3⟩
    case inr.inl =>
      have zj : (j : Int) ≤ (v.size : Int) := by omega
      have zj0 : (0 : Int) ≤ (j : Int) := by omega
      have hF : (v.extract 0 j).size ≤ 140737488351232 := by rw [Lib.size_eq, ext_front', List.length_take, ← Lib.size_eq]; omega
      have hG : u.size ≤ 140737488351232 := by exact hu
      have CC := Lib.hid fun w => CCm.out (v.extract 0 j) u w hF hG
      have CS : Hid (∀ w, Calls Tryd.prog 27 #[.string (v.extract j v.size), .string (⟨#[]⟩ : ByteArray)] w fun e w' => e = .returned (.int .i64 (Ver.bytes (v.extract j v.size).data.toList [])) ∧ w = w') := fun w => CSt.out (v.extract j v.size) (⟨#[]⟩ : ByteArray) w
      have hFo : ∃ F, v.extract 0 j = F := ⟨_, rfl⟩
      have hKo : ∃ K, v.extract j v.size = K := ⟨_, rfl⟩
      obtain ⟨F, hFe⟩ := hFo
      obtain ⟨K, hKe⟩ := hKo
      rw [hFe] at CC ⊢
      rw [hKe] at CS ⊢
      clear CCm CSt hF hG
      generalize Ver.bytes K.data.toList [] = r1 at *
      generalize hc : Ver.cmp F.data.toList u.data.toList = r2 at *
      by_cases he : F.data.toList = u.data.toList
      · rw [if_pos he]
        have e2 : (F.toList == u.toList) = true := by rw [Lib.toList_data, Lib.toList_data, he]; exact beq_self_eq_true _
        clear he hc
        go_enter Tryd.func23, Tryd.ntmps23
        go_wp2_with fail
        refine (CV'.out _).mono ?_
        rintro e w' ⟨rfl, rfl⟩
        go_wp2_with fail
        go_quiet (fail)
        go_wp2_with fail
        refine (CU'.out _).mono ?_
        rintro e w' ⟨rfl, rfl⟩
        go_wp2_with fail
        refine (CS.out _).mono ?_
        rintro e w' ⟨rfl, rfl⟩
        go_wp2
        go_ret
        exact ⟨rfl, (((Gr.refl _).alloc _).alloc _).drewN _⟩
      · rw [if_neg he]
        have e2 : (F.toList == u.toList) = false := by rw [Lib.toList_data, Lib.toList_data]; exact beq_eq_false_iff_ne.2 he
        clear he hc
        go_enter Tryd.func23, Tryd.ntmps23
        go_wp2_with fail
        refine (CV'.out _).mono ?_
        rintro e w' ⟨rfl, rfl⟩
        go_wp2_with fail
        go_quiet (fail)
        go_wp2_with fail
        refine (CU'.out _).mono ?_
        rintro e w' ⟨rfl, rfl⟩
        go_wp2_with fail
        refine (CC.out _).mono ?_
        rintro e w' ⟨rfl, g3⟩
        go_wp2
        go_ret
        exact ⟨rfl, ((((Gr.refl _).alloc _).alloc _).drewN _).trans g3⟩
    case inr.inr =>
      have zj : (j : Int) ≤ (v.size : Int) := by omega
      have zj0 : (0 : Int) ≤ (j : Int) := by omega
      have zk : (j' : Int) ≤ (u.size : Int) := by omega
      have zk0 : (0 : Int) ≤ (j' : Int) := by omega
      have hF : (v.extract 0 j).size ≤ 140737488351232 := by rw [Lib.size_eq, ext_front', List.length_take, ← Lib.size_eq]; omega
      have hG : (u.extract 0 j').size ≤ 140737488351232 := by rw [Lib.size_eq, ext_front', List.length_take, ← Lib.size_eq]; omega
      have CC := Lib.hid fun w => CCm.out (v.extract 0 j) (u.extract 0 j') w hF hG
      have CS : Hid (∀ w, Calls Tryd.prog 27 #[.string (v.extract j v.size), .string (u.extract j' u.size)] w fun e w' => e = .returned (.int .i64 (Ver.bytes (v.extract j v.size).data.toList (u.extract j' u.size).data.toList)) ∧ w = w') := fun w => CSt.out (v.extract j v.size) (u.extract j' u.size) w
      have hFo : ∃ F, v.extract 0 j = F := ⟨_, rfl⟩
      have hKo : ∃ K, v.extract j v.size = K := ⟨_, rfl⟩
      obtain ⟨F, hFe⟩ := hFo
      obtain ⟨K, hKe⟩ := hKo
      rw [hFe] at CC ⊢
      rw [hKe] at CS ⊢
      have hGo : ∃ G, u.extract 0 j' = G := ⟨_, rfl⟩
      have hHo : ∃ H, u.extract j' u.size = H := ⟨_, rfl⟩
      obtain ⟨G, hGe⟩ := hGo
      obtain ⟨H, hHe⟩ := hHo
      rw [hGe] at CC ⊢
      rw [hHe] at CS ⊢
      clear CCm CSt hF hG
      generalize Ver.bytes K.data.toList H.data.toList = r1 at *
      generalize hc : Ver.cmp F.data.toList G.data.toList = r2 at *
      by_cases he : F.data.toList = G.data.toList
      · rw [if_pos he]
        have e2 : (F.toList == G.toList) = true := by rw [Lib.toList_data, Lib.toList_data, he]; exact beq_self_eq_true _
        clear he hc
        go_enter Tryd.func23, Tryd.ntmps23
        go_wp2_with fail
        refine (CV'.out _).mono ?_
        rintro e w' ⟨rfl, rfl⟩
        go_wp2_with fail
        go_quiet (fail)
        go_wp2_with fail
        refine (CU'.out _).mono ?_
        rintro e w' ⟨rfl, rfl⟩
        go_wp2_with fail
        go_quiet (fail)
        go_wp2_with fail
        refine (CS.out _).mono ?_
        rintro e w' ⟨rfl, rfl⟩
        go_wp2
        go_ret
        exact ⟨rfl, (((Gr.refl _).alloc _).alloc _).drewN _⟩
      · rw [if_neg he]
        have e2 : (F.toList == G.toList) = false := by rw [Lib.toList_data, Lib.toList_data]; exact beq_eq_false_iff_ne.2 he
        clear he hc
        go_enter Tryd.func23, Tryd.ntmps23
        go_wp2_with fail
        refine (CV'.out _).mono ?_
        rintro e w' ⟨rfl, rfl⟩
        go_wp2_with fail
        go_quiet (fail)
        go_wp2_with fail
        refine (CU'.out _).mono ?_
        rintro e w' ⟨rfl, rfl⟩
        go_wp2_with fail
        go_quiet (fail)
        go_wp2_with fail
        refine (CC.out _).mono ?_
        rintro e w' ⟨rfl, g3⟩
        go_wp2
        go_ret
        exact ⟨rfl, ((((Gr.refl _).alloc _).alloc _).drewN _).trans g3⟩
end Go.Proofs.YtppnjkfeefmohaaDoor
