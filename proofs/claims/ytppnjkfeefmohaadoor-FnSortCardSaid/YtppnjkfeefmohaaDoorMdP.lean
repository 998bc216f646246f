/- The walk of package module's checkPath over a text of bytes below 128. -/
import Derived.Test.YtppnjkfeefmohaaDoorMdD
import Derived.Test.YtppnjkfeefmohaaDoorMdV
namespace Go.Proofs.YtppnjkfeefmohaaDoor
open Go.RowKit Str
set_option linter.unusedVariables false

namespace Pth
open Ver (split)
/-- a piece of a path, from a place to another, without a stroke -/
def Seg (l : List UInt8) (e k : Nat) : Prop := e ≤ k ∧ k ≤ l.length ∧ ∀ c ∈ (l.drop e).take (k - e), c ≠ 47
theorem Seg.start (l : List UInt8) : Seg l 0 0 := ⟨Nat.le_refl _, Nat.zero_le _, by simp⟩
theorem Seg.next {l : List UInt8} {e k : Nat} {c : UInt8} (h : Seg l e k) (hc : l[k]? = some c) (hn : c ≠ 47) : Seg l e (k + 1) := by
  obtain ⟨h1, h2, h3⟩ := h
  obtain ⟨q1, q2⟩ := List.getElem?_eq_some_iff.1 hc
  refine ⟨by omega, q1, fun x hx => ?_⟩
  have e1 : k + 1 - e = (k - e) + 1 := by omega
  have hl : k - e < (l.drop e).length := by rw [List.length_drop]; omega
  rw [e1, List.take_succ_eq_append_getElem hl, List.mem_append] at hx
  rcases hx with hx | hx
  · exact h3 x hx
  · rw [List.mem_singleton] at hx
    rw [hx, List.getElem_drop]
    have : e + (k - e) = k := by omega
    simp only [this, q2]; exact hn
theorem split_none (b : UInt8) : ∀ l : List UInt8, (∀ c ∈ l, c ≠ b) → split b l = [l]
  | [], _ => rfl
  | c :: l, h => by
    rw [split, if_neg (h c List.mem_cons_self), split_none b l fun x hx => h x (List.mem_cons_of_mem _ hx)]
theorem split_at (b : UInt8) : ∀ l r : List UInt8, (∀ c ∈ l, c ≠ b) → split b (l ++ b :: r) = l :: split b r
  | [], r, _ => by rw [List.nil_append, split, if_pos rfl]
  | c :: l, r, h => by
    rw [List.cons_append, split, if_neg (h c List.mem_cons_self), split_at b l r fun x hx => h x (List.mem_cons_of_mem _ hx)]
theorem Seg.cut {l : List UInt8} {e k : Nat} (h : Seg l e k) (hc : l[k]? = some 47) : split 47 (l.drop e) = (l.drop e).take (k - e) :: split 47 (l.drop (k + 1)) ∧ Seg l (k + 1) (k + 1) := by
  obtain ⟨h1, h2, h3⟩ := h
  obtain ⟨q1, q2⟩ := List.getElem?_eq_some_iff.1 hc
  refine ⟨?_, Nat.le_refl _, q1, by simp⟩
  have e1 := List.take_append_drop (k - e) (l.drop e)
  rw [List.drop_drop, show e + (k - e) = k by omega, List.drop_eq_getElem_cons q1, q2] at e1
  conv => lhs; rw [← e1]
  exact split_at 47 _ _ h3
theorem Seg.done {l : List UInt8} {e : Nat} (h : Seg l e l.length) : split 47 (l.drop e) = [l.drop e] := by
  obtain ⟨h1, h2, h3⟩ := h
  refine split_none 47 _ ?_
  rw [List.take_of_length_le (by rw [List.length_drop]; omega)] at h3
  exact h3
theorem split_len (b : UInt8) (l : List UInt8) : 0 < (split b l).length := by
  cases h : split b l with
  | nil => exact absurd h (Ver.split_ne b l)
  | cons => simp
/-- two strokes in a row leave an empty part -/
theorem split_two : ∀ l : List UInt8, ∀ j, idx [47, 47] l = some j → [] ∈ split 47 l
  | [], j => fun h => by cases h
  | c :: t, j => fun h => by
    unfold idx at h
    split at h
    case isTrue hp =>
      obtain ⟨u, hu⟩ := List.isPrefixOf_iff_prefix.1 hp
      rw [← hu]
      show [] ∈ split 47 (47 :: 47 :: u)
      rw [split, if_pos rfl]; exact List.mem_cons_self
    case isFalse =>
      cases hi : idx [47, 47] t with
      | none => rw [hi] at h; cases h
      | some i =>
        have ih := split_two t i hi
        rw [split]
        by_cases hc : c = 47
        · rw [if_pos hc]; exact List.mem_cons_self
        · rw [if_neg hc]
          cases hs : split 47 t with
          | nil => exact absurd hs (Ver.split_ne 47 t)
          | cons a r =>
            rw [hs] at ih
            show [] ∈ (c :: a) :: r
            have ht : ∃ d u, t = d :: u := by
              cases t with
              | nil => cases hi
              | cons d u => exact ⟨d, u, rfl⟩
            rcases List.mem_cons.1 ih with h0 | h0
            · -- t begins with a stroke, and what is behind has two in a row
              obtain ⟨d, u, rfl⟩ := ht
              subst h0
              by_cases hd : d = 47
              · subst hd
                rw [split, if_pos rfl] at hs
                simp only [List.cons.injEq, true_and] at hs
                refine List.mem_cons_of_mem _ ?_
                rw [← hs]
                unfold idx at hi
                split at hi
                case isTrue hp2 =>
                  obtain ⟨v, hv⟩ := List.isPrefixOf_iff_prefix.1 hp2
                  have hv' : u = 47 :: v := by simpa using hv.symm
                  rw [hv', split, if_pos rfl]; exact List.mem_cons_self
                case isFalse =>
                  cases hi2 : idx [47, 47] u with
                  | none => rw [hi2] at hi; cases hi
                  | some i2 => exact split_two u i2 hi2
              · rw [split, if_neg hd] at hs
                split at hs <;> simp at hs
            · exact List.mem_cons_of_mem _ h0
/-- a stroke at the end leaves an empty part -/
theorem split_last : ∀ l : List UInt8, l.getLast? = some 47 → [] ∈ split 47 l
  | [], h => by cases h
  | [c], h => by
    have : c = 47 := by simpa using h
    subst this; decide
  | c :: d :: t, h => by
    have ih := split_last (d :: t) (by simpa using h)
    rw [split]
    by_cases hc : c = 47
    · rw [if_pos hc]; exact List.mem_cons_self
    · rw [if_neg hc]
      cases hs : split 47 (d :: t) with
      | nil => exact absurd hs (Ver.split_ne 47 _)
      | cons a r =>
        rw [hs] at ih
        show [] ∈ (c :: a) :: r
        rcases List.mem_cons.1 ih with h0 | h0
        · subst h0
          by_cases hd : d = 47
          · subst hd
            rw [split, if_pos rfl] at hs
            simp only [List.cons.injEq, true_and] at hs
            rw [← hs]
            refine List.mem_cons_of_mem _ ?_
            cases t with
            | nil => decide
            | cons x t => exact split_last (x :: t) (by simpa using h)
          · rw [split, if_neg hd] at hs
            split at hs <;> simp at hs
        · exact List.mem_cons_of_mem _ h0
end Pth

/-- what checkPath asks -/
def pathOk (kind : Nat) (l : List UInt8) : Bool := !(l.head? == some 45 && kind != 2) && (Ver.split 47 l).all (elemOk kind)

theorem elemOk_nil (kind : Nat) : elemOk kind [] = false := rfl
theorem all_nil {kind : Nat} {x : List (List UInt8)} (h : [] ∈ x) : x.all (elemOk kind) = false := by
  rw [List.all_eq_false]; exact ⟨[], h, by rw [elemOk_nil]; simp⟩

theorem extract_list (s : ByteArray) (a b : Nat) : (s.extract a b).data.toList = (s.data.toList.drop a).take (b - a) := Lib.extract_data s a b
theorem extract_le (s : ByteArray) (a b : Nat) : (s.extract a b).size ≤ s.size := by
  rw [Lib.size_eq, extract_list, List.length_take, List.length_drop, ← Lib.size_eq]; omega

set_option maxRecDepth 100000 in
set_option maxHeartbeats 8000000 in
theorem checkPath_calls (s : ByteArray) (kind : Nat) (hkind : kind ≤ 2) (ha : Asc s.data.toList) (w : World) (hb : Bad w) (hs : s.size ≤ 140737488351232) :
    Calls Tryd.prog 45 #[.string s, .int .i64 kind] w fun e w' => (∃ x, e = .returned x ∧ Err (pathOk kind s.data.toList) x) ∧ Gr w w' := by
  obtain ⟨R, hR⟩ : ∃ R, pathOk kind s.data.toList = R := ⟨_, rfl⟩
  have HR : Hid (R = (!(s.data.toList.head? == some 45 && kind != 2) && (Ver.split 47 s.data.toList).all (elemOk kind))) := hR.symm
  rw [hR]
  have HA := Lib.hid ha
  have HB := Lib.hid hb
  have HL := Lib.hid (Lib.size_eq s)
  have CV : Hid (∀ w, Calls Tryd.prog 66 #[.string s] w fun e w' => e = .returned (.bool true) ∧ Drew w w') := fun w => ValidString_calls s ha w hs
  have CZ : Hid (∀ w, Calls Tryd.prog 25 #[.string s, .string ⟨#[47, 47]⟩] w fun e w' => e = .returned (.int .i64 (idxV [47, 47] s.data.toList)) ∧ w = w') := fun w => zzIndex_calls s ⟨#[47, 47]⟩ w hs (by decide) (by decide)
  have CE : Hid (∀ a b W, Bad W → Calls Tryd.prog 67 #[.string (s.extract a b), .int .i64 kind] W fun e w' => (∃ x, e = .returned x ∧ Err (elemOk kind (s.extract a b).data.toList) x) ∧ Gr W w') := fun a b W hW =>
    checkElem_calls (s.extract a b) kind hkind (ha.cut a b) W hW (Nat.le_trans (extract_le s a b) hs)
  clear hR ha hb
  by_cases h0 : s.size = 0
  · obtain rfl := size_zero h0
    have h2 := toList_nil
    obtain rfl : R = false := by rw [HR.out, B_data]; cases kind <;> rfl
    clear HR CE CZ
    go_enter Tryd.func45, Tryd.ntmps45
    go_wp2_with fail
    refine (CV.out _).mono ?_
    rintro e w1 ⟨rfl, hd1⟩
    go_wp2_with fail
    refine (errorsNew_calls _ _).mono ?_
    rintro e w2 ⟨⟨a, rfl⟩, g2⟩
    go_wp2
    go_ret
    exact ⟨⟨_, rfl, _, _, rfl⟩, (Gr.of_drew hd1).trans g2⟩
  have hp : 0 < s.size := by omega
  have h2 := toList_ne hp
  obtain ⟨c0, hc0⟩ : ∃ c0 : UInt8, s[0]'hp = c0 := ⟨_, rfl⟩
  have H0 : Hid (s.data.toList.head? = some c0) := by show _ = _; rw [head_eq hp, hc0]
  by_cases hh : c0 = 45 ∧ kind ≠ 2
  · have e1 : ((c0.toNat : Int) == 45) = true := by rw [hh.1]; rfl
    have e2 : ((kind : Int) != 2) = true := bne_iff_ne.2 (by have := hh.2; omega)
    have e2' : ((kind : Int) == 2) = false := beq_eq_false_iff_ne.2 (by have := hh.2; omega)
    obtain rfl : R = false := by
      rw [HR.out, H0.out, hh.1, show (kind != 2) = true from bne_iff_ne.2 hh.2]; rfl
    clear HR CE CZ hh H0
    go_enter Tryd.func45, Tryd.ntmps45
    go_wp2_with fail
    refine (CV.out _).mono ?_
    rintro e w1 ⟨rfl, hd1⟩
    go_wp2_with fail
    refine (errorsNew_calls _ _).mono ?_
    rintro e w2 ⟨⟨a, rfl⟩, g2⟩
    go_wp2
    go_ret
    exact ⟨⟨_, rfl, _, _, rfl⟩, (Gr.of_drew hd1).trans g2⟩
  have HR1 : Hid (R = (Ver.split 47 s.data.toList).all (elemOk kind)) := by
    show _ = _
    rw [HR.out, H0.out]
    have : ((some c0 == some (45 : UInt8)) && kind != 2) = false := by
      rw [Bool.and_eq_false_iff]
      by_cases h1 : c0 = 45
      · right; rw [bne_eq_false_iff_eq]; exact Classical.byContradiction fun h => hh ⟨h1, h⟩
      · left; rw [beq_eq_false_iff_ne]; simpa using h1
    rw [this]; rfl
  have ways : ((c0.toNat : Int) == 45) = false ∨ (((c0.toNat : Int) == 45) = true ∧ ((kind : Int) != 2) = false ∧ ((kind : Int) == 2) = true) := by
    by_cases h1 : c0 = 45
    · right
      have hk : kind = 2 := Classical.byContradiction fun h => hh ⟨h1, h⟩
      exact ⟨by rw [h1]; rfl, by rw [hk]; rfl, by rw [hk]; rfl⟩
    · left; exact ne_nat h1
  clear hh HR H0
  cases hidx : idx [47, 47] s.data.toList with
  | some j =>
    obtain rfl : R = false := by rw [HR1.out]; exact all_nil (Pth.split_two _ _ hidx)
    have hv : idxV [47, 47] s.data.toList = (j : Int) := by unfold idxV; rw [hidx]
    rw [hv] at CZ
    clear HR1 CE hidx hv
    rcases ways with e1 | ⟨e1, e2, e3⟩
    all_goals
      go_enter Tryd.func45, Tryd.ntmps45
      go_wp2_with fail
      refine (CV.out _).mono ?_
      rintro e w1 ⟨rfl, hd1⟩
      go_wp2_with fail
      refine (CZ.out _).mono ?_
      rintro e w' ⟨rfl, rfl⟩
      go_wp2_with fail
      refine (errorsNew_calls _ _).mono ?_
      rintro e w2 ⟨⟨a, rfl⟩, g2⟩
      go_wp2
      go_ret
      exact ⟨⟨_, rfl, _, _, rfl⟩, (Gr.of_drew hd1).trans g2⟩
  | none =>
    have hv : idxV [47, 47] s.data.toList = -1 := by unfold idxV; rw [hidx]
    rw [hv] at CZ
    clear hidx hv
    obtain ⟨cl, hcl⟩ : ∃ cl : UInt8, s[s.size - 1]'(by omega) = cl := ⟨_, rfl⟩
    have H1 : Hid (s.data.toList.getLast? = some cl) := by show _ = _; rw [last_eq hp, hcl]
    have hsz : ((s.size : Int) - 1).toNat = s.size - 1 := by omega
    have hsz' : (0 : Int) ≤ (s.size : Int) - 1 := by omega
    by_cases hl : cl = 47
    · have e4 : ((cl.toNat : Int) == 47) = true := by rw [hl]; rfl
      obtain rfl : R = false := by rw [HR1.out]; exact all_nil (Pth.split_last _ (by rw [H1.out, hl]))
      clear HR1 CE H1 hl
      rcases ways with e1 | ⟨e1, e2, e3⟩
      all_goals
        go_enter Tryd.func45, Tryd.ntmps45
        go_wp2_with fail
        refine (CV.out _).mono ?_
        rintro e w1 ⟨rfl, hd1⟩
        go_wp2_with fail
        refine (CZ.out _).mono ?_
        rintro e w' ⟨rfl, rfl⟩
        go_wp2_with fail
        refine (errorsNew_calls _ _).mono ?_
        rintro e w2 ⟨⟨a, rfl⟩, g2⟩
        go_wp2
        go_ret
        exact ⟨⟨_, rfl, _, _, rfl⟩, (Gr.of_drew hd1).trans g2⟩
    have e4 : ((cl.toNat : Int) == 47) = false := ne_nat hl
    clear H1 hl
    rcases ways with e1 | ⟨e1, e2, e3⟩
    all_goals
      go_enter Tryd.func45, Tryd.ntmps45
      go_wp2_with fail
      refine (CV.out _).mono ?_
      rintro e w1 ⟨rfl, hd1⟩
      have HG1 := Lib.hid (Gr.of_drew hd1)
      clear hd1 CV
      go_wp2_with fail
      refine (CZ.out _).mono ?_
      rintro e w' ⟨rfl, rfl⟩
      clear CZ
      go_wp2
      go_loopg [5] (s.size + 1) (fun g v3 wr => ∃ a k : Nat, v3 = .int .i64 a ∧ s.size < k + g ∧ k ≤ s.size ∧ a ≤ k ∧ IterAt wr w1.heap.size s k ∧ Gr w1 wr ∧ Hid (Pth.Seg s.data.toList a k) ∧ Hid (R = (Ver.split 47 (s.data.toList.drop a)).all (elemOk kind)))
      case atStart => exact ⟨0, 0, rfl, by omega, by omega, by omega, IterAt.start w1 s, (Gr.refl w1).iter s, Pth.Seg.start _, HR1⟩
      case round =>
        clear HR1 e1 e4 hcl hc0
        obtain ⟨a, k, rfl, hg, hk, hak, hi, hgr, HS, HK⟩ := hrel
        have HI := Lib.hid hi
        have HG := Lib.hid hgr
        have hak' : (a : Int) ≤ (k : Int) := by omega
        by_cases hlt : k < s.size
        · obtain ⟨d, hd⟩ : ∃ d : UInt8, s[k]'hlt = d := ⟨_, rfl⟩
          have HD := Lib.hid (byte_at' s k hlt hd)
          have hd128 := HA.out.at k hlt hd
          have hnx : ∀ ty, (Instr.next (.pointer (some ⟨w1.heap.size, 0, none⟩)) true ty).run Tryd.prog wr = .ok (.tuple #[.bool true, .int .i64 k, .int .i32 d.toNat]) (setIter wr w1.heap.size s (k + 1)) := fun ty => by
            have := next_ascii (P := Tryd.prog) hi hlt (by rw [hd]; exact hd128) ty
            rw [hd] at this; exact this
          have HI2 := Lib.hid (HI.out.set (pos' := k + 1))
          have HG2 := Lib.hid (HG.out.setIter (b := w1.heap.size) (s := s) (pos := k + 1) (Nat.le_refl _))
          clear hi hgr HI HG hd
          generalize setIter wr w1.heap.size s (k + 1) = W at *
          by_cases h47 : d = 47
          · subst h47
            obtain ⟨hsp, hseg⟩ := HS.out.cut HD.out
            have HS2 := Lib.hid hseg
            obtain ⟨b, hb⟩ : ∃ b, elemOk kind (s.extract a k).data.toList = b := ⟨_, rfl⟩
            have HK2 : Hid (R = (b && (Ver.split 47 (s.data.toList.drop (k + 1))).all (elemOk kind))) := by
              show _ = _; rw [HK.out, hsp, List.all_cons, ← extract_list, hb]
            have CEk : Hid (∀ W, Bad W → Calls Tryd.prog 67 #[.string (s.extract a k), .int .i64 kind] W fun e w' => (∃ x, e = .returned x ∧ Err b x) ∧ Gr W w') := by
              have := CE.out a k; rw [hb] at this; exact this
            clear HK HS HD hsp hseg hb
            have hbad := Lib.hid (HB.out.keep (HG1.out.trans HG2.out))
            cases b with
            | true =>
              go_wp2_with fail
              refine (CEk.out _ hbad.out).mono ?_
              rintro e w2 ⟨⟨x, rfl, hx⟩, g2⟩
              obtain rfl : x = .nilIface := hx
              have HK3 : Hid (R = (Ver.split 47 (s.data.toList.drop (k + 1))).all (elemOk kind)) := by show _ = _; rw [HK2.out, Bool.true_and]
              have HG3 := Lib.hid (HG2.out.trans g2)
              have HI3 := Lib.hid (HI2.out.keep g2)
              clear g2 HK2 HG2 HI2 hbad
              go_wp2
              go_roundg (gk - 1)
              case measure => omega
              case rel => exact ⟨k + 1, k + 1, by go_num, by omega, by omega, by omega, HI3.out, HG3.out, HS2, HK3⟩
            | false =>
              obtain rfl : R = false := by rw [HK2.out]; rfl
              go_wp2_with fail
              refine (CEk.out _ hbad.out).mono ?_
              rintro e w2 ⟨⟨x, rfl, hx⟩, g2⟩
              obtain ⟨t, p, rfl⟩ : ∃ t p, x = .iface t (.pointer (some p)) := hx
              have HG3 := Lib.hid ((HG1.out.trans HG2.out).trans g2)
              clear g2 HK2 HG2 HI2 hbad hg
              go_wp2
              go_ret
              exact ⟨⟨_, rfl, _, _, rfl⟩, HG3.out⟩
          · have e47 : ((d.toNat : Int) == 47) = false := ne_nat h47
            have HS2 := Lib.hid (HS.out.next HD.out h47)
            clear HS HD h47
            go_wp2
            go_roundg (gk - 1)
            case measure => omega
            case rel => exact ⟨a, k + 1, rfl, by omega, by omega, by omega, HI2.out, HG2.out, HS2, HK⟩
        · have hnx : ∀ ty, (Instr.next (.pointer (some ⟨w1.heap.size, 0, none⟩)) true ty).run Tryd.prog wr = .ok (.tuple #[.bool false]) wr := fun ty => next_end hi hlt ty
          have hks : k = s.size := by omega
          have has : a ≤ s.size := by omega
          have has' : (a : Int) ≤ (s.size : Int) := by omega
          obtain ⟨b, hb⟩ : ∃ b, elemOk kind (s.extract a s.size).data.toList = b := ⟨_, rfl⟩
          have HK2 : R = b := by
            have h3 := HS.out
            rw [hks, HL.out] at h3
            rw [HK.out, h3.done, List.all_cons, List.all_nil, Bool.and_true, ← hb, Lib.extract_to_end]
          subst HK2
          have CEk : Hid (∀ W, Bad W → Calls Tryd.prog 67 #[.string (s.extract a s.size), .int .i64 kind] W fun e w' => (∃ x, e = .returned x ∧ Err R x) ∧ Gr W w') := by
            have := CE.out a s.size; rw [hb] at this; exact this
          have hbad := Lib.hid (HB.out.keep (HG1.out.trans HG.out))
          clear HK HS hb hi hgr hg hks HI hak hak' hk
          cases R with
          | true =>
            go_wp2_with fail
            refine (CEk.out _ hbad.out).mono ?_
            rintro e w2 ⟨⟨x, rfl, hx⟩, g2⟩
            obtain rfl : x = .nilIface := hx
            have HG3 := Lib.hid ((HG1.out.trans HG.out).trans g2)
            clear g2 hbad HG
            go_wp2
            go_ret
            exact ⟨⟨_, rfl, rfl⟩, HG3.out⟩
          | false =>
            go_wp2_with fail
            refine (CEk.out _ hbad.out).mono ?_
            rintro e w2 ⟨⟨x, rfl, hx⟩, g2⟩
            obtain ⟨t, p, rfl⟩ : ∃ t p, x = .iface t (.pointer (some p)) := hx
            have HG3 := Lib.hid ((HG1.out.trans HG.out).trans g2)
            clear g2 hbad HG
            go_wp2
            go_ret
            exact ⟨⟨_, rfl, _, _, rfl⟩, HG3.out⟩
end Go.Proofs.YtppnjkfeefmohaaDoor
