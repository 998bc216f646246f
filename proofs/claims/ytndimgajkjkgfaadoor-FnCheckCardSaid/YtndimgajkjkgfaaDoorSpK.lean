/- Walks of the reference's Open and Module; what they say, in plain words. -/
import Derived.Test.YtndimgajkjkgfaaDoorSpJ
import Derived.Test.YtndimgajkjkgfaaDoorSpG
import Derived.Test.YtndimgajkjkgfaaDoorMdQ
namespace Go.Proofs.YtndimgajkjkgfaaDoor
open Go.RowKit Str
set_option linter.unusedVariables false

namespace Pe
def badI (kind : Nat) (l : List UInt8) (i : Nat) : Bool := (l[i]?).any fun c => decide (128 ≤ c.toNat) || ((decide (0 < i) && (c == 46 && l[i - 1]? == some 46)) || (c == 43 && decide (kind < 2)))
def anyN (f : Nat → Bool) : Nat → Nat → Bool
  | _, 0 => false
  | k, n + 1 => f k || anyN f (k + 1) n
def badX (kind : Nat) (x : List UInt8) : Bool := x.contains 126 && (kind == 2 || x.contains 46)
/-- the reference's Open -/
def opn (kind : Nat) (l : List UInt8) : Bool := anyN (badI kind l) 0 l.length || ((Ver.split 47 l).any (badX kind) || l.head? == some 45)
/-- the reference's Module -/
def modS (l : List UInt8) : Bool := (Ver.split 47 l).all (element 0) && ((l.takeWhile (· != 47)).contains 46 && ((l.takeWhile (· != 47)).all (fun c => firstOk c.toNat) && (Pth.splitS l).2.2)) && (l.takeWhile (· != 47)).head? != some 45

theorem anyN_false {f : Nat → Bool} : ∀ n k, anyN f k n = false → ∀ i, k ≤ i → i < k + n → f i = false
  | 0, k, _, i, h1, h2 => absurd h2 (by omega)
  | n + 1, k, h, i, h1, h2 => by
    rw [anyN, Bool.or_eq_false_iff] at h
    by_cases e : i = k
    · rw [e]; exact h.1
    · exact anyN_false n (k + 1) h.2 i (by omega) (by omega)

theorem opn_parts {kind : Nat} {l : List UInt8} (h : opn kind l = false) : Asc l ∧ (kind < 2 → (43 : UInt8) ∉ l) ∧ (∀ x ∈ Ver.split 47 l, badX kind x = false) ∧ l.head? ≠ some 45 := by
  unfold opn at h
  rw [Bool.or_eq_false_iff, Bool.or_eq_false_iff] at h
  obtain ⟨h1, h2, h3⟩ := h
  have h1 := anyN_false _ _ h1
  refine ⟨fun c hc => ?_, fun hk hm => ?_, fun x hx => ?_, by rw [beq_eq_false_iff_ne] at h3; exact h3⟩
  · obtain ⟨i, hi, rfl⟩ := List.mem_iff_getElem.1 hc
    have := h1 i (by omega) (by omega)
    unfold badI at this
    rw [List.getElem?_eq_getElem hi, Option.any_some, Bool.or_eq_false_iff] at this
    have := of_decide_eq_false this.1; omega
  · obtain ⟨i, hi, hc⟩ := List.mem_iff_getElem.1 hm
    have := h1 i (by omega) (by omega)
    unfold badI at this
    rw [List.getElem?_eq_getElem hi, Option.any_some, hc, Bool.or_eq_false_iff, Bool.or_eq_false_iff, decide_eq_true hk] at this
    cases this.2.2
  · have := List.any_eq_false.1 h2 x hx
    simpa using this

theorem part_sub : ∀ (l : List UInt8), ∀ x ∈ Ver.split 47 l, ∀ c ∈ x, c ∈ l
  | [], x, hx, c, hc => by
    have : x = [] := by simpa [Ver.split] using hx
    rw [this] at hc; cases hc
  | d :: l, x, hx, c, hc => by
    rw [Ver.split] at hx
    by_cases hd : d = 47
    · rw [if_pos hd] at hx
      rcases List.mem_cons.1 hx with rfl | hx
      · cases hc
      · exact List.mem_cons_of_mem _ (part_sub l x hx c hc)
    · rw [if_neg hd] at hx
      cases hs : Ver.split 47 l with
      | nil => exact absurd hs (Ver.split_ne 47 l)
      | cons a r =>
        rw [hs] at hx
        rcases List.mem_cons.1 hx with rfl | hx
        · rcases List.mem_cons.1 hc with rfl | hc
          · exact List.mem_cons_self
          · exact List.mem_cons_of_mem _ (part_sub l a (by rw [hs]; exact List.mem_cons_self) c hc)
        · exact List.mem_cons_of_mem _ (part_sub l x (by rw [hs]; exact List.mem_cons_of_mem _ hx) c hc)

theorem asked_of {kind : Nat} {l : List UInt8} (h : opn kind l = false) : ∀ x ∈ Ver.split 47 l, asked kind x := fun x hx => by
  obtain ⟨_, h2, h3, _⟩ := opn_parts h
  refine ⟨fun hk hm => h2 hk (part_sub l x hx _ hm), fun hm => ?_⟩
  have := h3 x hx
  unfold badX at this
  rw [List.contains_iff_mem.2 hm, Bool.true_and, Bool.or_eq_false_iff] at this
  refine ⟨fun e => ?_, fun h46 => ?_⟩
  · rw [e] at this; cases this.1
  · rw [List.contains_iff_mem.2 h46] at this; cases this.2

theorem all_congr {α : Type} {f g : α → Bool} {l : List α} (h : ∀ x ∈ l, f x = g x) : l.all f = l.all g := by
  rw [Bool.eq_iff_iff, List.all_eq_true, List.all_eq_true]
  exact ⟨fun a x hx => (h x hx) ▸ a x hx, fun a x hx => (h x hx).symm ▸ a x hx⟩

/-- of what it is asked, the program's checkPath says what the reference's Import says -/
theorem path_same {kind : Nat} {l : List UInt8} (hk : kind ≤ 2) (h : opn kind l = false) : pathOk kind l = (Ver.split 47 l).all (element kind) := by
  unfold pathOk
  obtain ⟨_, _, _, h4⟩ := opn_parts h
  rw [show (l.head? == some 45) = false from beq_eq_false_iff_ne.2 h4, Bool.false_and, Bool.not_false, Bool.true_and]
  exact all_congr fun x hx => elem_same hk (asked_of h x hx)

/-- and its CheckPath what the reference's Module says -/
theorem module_same {l : List UInt8} (h : opn 0 l = false) (hb : Pth.behind l = false) : modI l = modS l := by
  unfold modI modS
  rw [path_same (by omega) h, Pth.split_same hb]
  obtain ⟨_, _, _, h4⟩ := opn_parts h
  cases l with
  | nil => rfl
  | cons c t =>
    have : ((c :: t).takeWhile (· != 47)).head? ≠ some 45 := by
      rw [List.takeWhile_cons]
      split
      · intro e; exact h4 e
      · simp
    rw [show (((c :: t).takeWhile (· != 47)).head? != some 45) = true from bne_iff_ne.2 this, Bool.and_true]
end Pe

theorem badI_at {kind : Nat} {s : ByteArray} {k : Nat} {d : UInt8} (hlt : k < s.size) (hd : s[k]'hlt = d) :
    Pe.badI kind s.data.toList k = (decide (128 ≤ d.toNat) || ((decide (0 < k) && (d == 46 && s.data.toList[k - 1]? == some 46)) || (d == 43 && decide (kind < 2)))) := by
  unfold Pe.badI
  rw [byte_at' s k hlt hd, Option.any_some]

set_option maxRecDepth 100000 in
set_option maxHeartbeats 8000000 in
theorem Open_calls (s : ByteArray) (kind : Nat) (hkind : kind ≤ 2) (R : Bool) (h : Pe.opn kind s.data.toList = R) (w : World) (hs : s.size ≤ 1000) :
    Calls Tryd.prog 13 #[.string s, .int .i64 kind] w fun e w' => e = .returned (.bool R) ∧ Bl w w' := by
  obtain ⟨rest, hrest⟩ : ∃ b, ((Ver.split 47 s.data.toList).any (Pe.badX kind) || s.data.toList.head? == some 45) = b := ⟨_, rfl⟩
  have H0 : Hid (R = (Pe.anyN (Pe.badI kind s.data.toList) 0 s.size || rest)) := by
    show _ = _; rw [← h, Lib.size_eq, ← hrest]; rfl
  have CEl := Lib.hid fun w => Elements_calls s w hs
  have HP : Hid (∀ x ∈ Ver.split 47 s.data.toList, x.length ≤ 1000) := fun x hx => by
    have := split_part_len _ x hx
    rw [← Lib.size_eq] at this; omega
  have hLl := split_count s.data.toList
  rw [← Lib.size_eq] at hLl
  generalize Ver.split 47 s.data.toList = L at *
  have HREST := Lib.hid hrest
  have HAT : Hid (∀ (k : Nat) (d : UInt8) (hlt : k < s.size), s[k]'hlt = d → Pe.badI kind s.data.toList k = (decide (128 ≤ d.toNat) || ((decide (0 < k) && (d == 46 && s.data.toList[k - 1]? == some 46)) || (d == 43 && decide (kind < 2))))) := fun k d hlt hd => badI_at hlt hd
  clear h hrest
  go_enter Tryd.func13, Tryd.ntmps13
  go_wp2
  go_loopg [10] (s.size + 1) (fun g v10 wr => ∃ k : Nat, v10 = .int .i64 k ∧ s.size < k + g ∧ k ≤ s.size ∧ w = wr ∧ Hid (R = (Pe.anyN (Pe.badI kind s.data.toList) k (s.size - k) || rest)))
  case atStart => exact ⟨0, rfl, by omega, by omega, rfl, H0⟩
  case round =>
    clear H0
    obtain ⟨k, rfl, hg, hk, rfl, HK⟩ := hrel
    by_cases hlt : k < s.size
    · obtain ⟨d, hd⟩ : ∃ d : UInt8, s[k]'hlt = d := ⟨_, rfl⟩
      have hd256 := d.toNat_lt
      obtain ⟨n, hn⟩ : ∃ n, s.size - k = n + 1 := ⟨s.size - k - 1, by omega⟩
      have hn2 : s.size - (k + 1) = n := by omega
      obtain ⟨f, hf⟩ : ∃ f, Pe.badI kind s.data.toList k = f := ⟨_, rfl⟩
      have hfe := HAT.out k d hlt hd
      rw [hf] at hfe
      have HK2 : Hid (R = (f || (Pe.anyN (Pe.badI kind s.data.toList) (k + 1) (s.size - (k + 1)) || rest))) := by
        show _ = _; rw [HK.out, hn, hn2, Pe.anyN, hf, Bool.or_assoc]
      clear HK hn hn2 hf
      -- the ways on which a sign is one of which nothing is asked
      have ways : (f = true ∧ 128 ≤ d.toNat) ∨ (f = true ∧ d.toNat < 128 ∧ 0 < k ∧ d = 46 ∧ s.data.toList[k - 1]? = some 46) ∨ (f = true ∧ d.toNat < 128 ∧ d = 43 ∧ kind < 2) ∨
          (f = false ∧ d.toNat < 128 ∧ (k = 0 ∨ d ≠ 46 ∨ s.data.toList[k - 1]? ≠ some 46) ∧ (d ≠ 43 ∨ 2 ≤ kind)) := by
        by_cases q1 : 128 ≤ d.toNat
        · left; exact ⟨by rw [hfe, decide_eq_true q1]; rfl, q1⟩
        · rw [decide_eq_false q1, Bool.false_or] at hfe
          right
          by_cases q2 : 0 < k ∧ d = 46 ∧ s.data.toList[k - 1]? = some 46
          · left; exact ⟨by rw [hfe, decide_eq_true q2.1, q2.2.1, q2.2.2]; rfl, by omega, q2⟩
          · have e2 : (decide (0 < k) && (d == 46 && s.data.toList[k - 1]? == some 46)) = false := by
              rw [← Bool.not_eq_true]; simp only [Bool.and_eq_true, decide_eq_true_eq, beq_iff_eq]; exact q2
            rw [e2, Bool.false_or] at hfe
            right
            by_cases q3 : d = 43 ∧ kind < 2
            · left; exact ⟨by rw [hfe, q3.1, decide_eq_true q3.2]; rfl, by omega, q3⟩
            · right
              refine ⟨?_, by omega, ?_, ?_⟩
              · rw [hfe, ← Bool.not_eq_true]; simp only [Bool.and_eq_true, decide_eq_true_eq, beq_iff_eq]; exact q3
              · by_cases z1 : k = 0
                · exact .inl z1
                · by_cases z2 : d = 46
                  · exact .inr (.inr fun z3 => q2 ⟨by omega, z2, z3⟩)
                  · exact .inr (.inl z2)
              · by_cases z1 : d = 43
                · exact .inr (Classical.byContradiction fun z2 => q3 ⟨z1, by omega⟩)
                · exact .inl z1
      clear hfe
      have HPREV : Hid (0 < k → ∃ h : k - 1 < s.size, s.data.toList[k - 1]? = some (s[k - 1]'h)) := fun h => ⟨by omega, byte_at s (k - 1) (by omega)⟩
      rcases ways with ⟨rfl, q1⟩ | ⟨rfl, q1, q2, rfl, q3⟩ | ⟨rfl, q1, rfl, q2⟩ | ⟨rfl, q1, q2, q3⟩
      · obtain rfl : R = true := HK2.out
        clear HK2 hg HPREV
        go_wp2
        go_ret
        exact ⟨rfl, Bl.refl _⟩
      · obtain rfl : R = true := HK2.out
        obtain ⟨p1, p2⟩ := HPREV.out q2
        have hpv : s[k - 1]'p1 = 46 := by rw [p2] at q3; exact Option.some.inj q3
        have hk0 : (0 : Int) < (k : Int) := by omega
        have hk1 : (0 : Int) ≤ (k : Int) - 1 := by omega
        have hk2 : ((k : Int) - 1).toNat = k - 1 := by omega
        have hk3 : (k : Int) - 1 < (s.size : Int) := by omega
        clear HK2 hg HPREV q3 p2
        go_wp2
        go_ret
        exact ⟨rfl, Bl.refl _⟩
      · obtain rfl : R = true := HK2.out
        have hk2 : (kind : Int) < 2 := by omega
        have kways : k = 0 ∨ 0 < k := by omega
        clear HK2 hg HPREV
        rcases kways with rfl | hk0
        · go_wp2
          go_ret
          exact ⟨rfl, Bl.refl _⟩
        · have hk0 : (0 : Int) < (k : Int) := by omega
          go_wp2
          go_ret
          exact ⟨rfl, Bl.refl _⟩
      · have HN : Hid (R = (Pe.anyN (Pe.badI kind s.data.toList) (k + 1) (s.size - (k + 1)) || rest)) := HK2.out
        have e43 : ((d.toNat : Int) == 43) = false ∨ (((d.toNat : Int) == 43) = true ∧ ¬ (kind : Int) < 2) := by
          by_cases z : d = 43
          · right; exact ⟨by rw [z]; rfl, by rcases q3 with h | h; exact absurd z h; omega⟩
          · left; exact ne_nat z
        clear HK2 q3
        rcases q2 with rfl | hne | hpn
        · clear HPREV
          rcases e43 with e43 | ⟨e43, e2⟩
          all_goals
            go_wp2
            go_roundg (gk - 1)
            case measure => omega
            case rel => exact ⟨0 + 1, by go_num, by omega, by omega, rfl, HN⟩
        · have e46 : ((d.toNat : Int) == 46) = false := ne_nat hne
          have kways : ¬ (0 : Int) < (k : Int) ∨ (0 : Int) < (k : Int) := by omega
          clear HPREV hne
          rcases e43 with e43 | ⟨e43, e2⟩ <;> rcases kways with hk0 | hk0
          all_goals
            go_wp2
            go_roundg (gk - 1)
            case measure => omega
            case rel => exact ⟨k + 1, by go_num, by omega, by omega, rfl, HN⟩
        · by_cases hk0 : 0 < k
          · obtain ⟨p1, p2⟩ := HPREV.out hk0
            obtain ⟨pc, hpc⟩ : ∃ pc : UInt8, s[k - 1]'p1 = pc := ⟨_, rfl⟩
            have epc : ((pc.toNat : Int) == 46) = false := ne_nat (d := 46) (fun e => hpn (by rw [p2, hpc, e]))
            have hk0' : (0 : Int) < (k : Int) := by omega
            have hk1 : (0 : Int) ≤ (k : Int) - 1 := by omega
            have hk2 : ((k : Int) - 1).toNat = k - 1 := by omega
            have hk3 : (k : Int) - 1 < (s.size : Int) := by omega
            have e46 : ((d.toNat : Int) == 46) = true ∨ ((d.toNat : Int) == 46) = false := by cases ((d.toNat : Int) == 46) <;> simp
            clear HPREV hpn p2
            rcases e43 with e43 | ⟨e43, e2⟩ <;> rcases e46 with e46 | e46
            all_goals
              go_wp2
              go_roundg (gk - 1)
              case measure => omega
              case rel => exact ⟨k + 1, by go_num, by omega, by omega, rfl, HN⟩
          · obtain rfl : k = 0 := by omega
            clear HPREV hpn
            rcases e43 with e43 | ⟨e43, e2⟩
            all_goals
              go_wp2
              go_roundg (gk - 1)
              case measure => omega
              case rel => exact ⟨0 + 1, by go_num, by omega, by omega, rfl, HN⟩
    · obtain rfl : R = rest := by rw [HK.out, show s.size - k = 0 by omega]; rfl
      clear HK hg HAT
      have H0 : Hid (R = ((L.drop 0).any (Pe.badX kind) || s.data.toList.head? == some 45)) := HREST.out.symm
      have hkk : ¬ (k : Int) < (s.size : Int) := by omega
      go_wp2_with fail
      refine (CEl.out _).mono ?_
      rintro e w1 ⟨⟨v, rfl, hv⟩, hb1⟩
      obtain ⟨b, cap, rfl, hbl, hcap, hcell⟩ := hv
      have HC : Hid (b < w1.heap.size ∧ ∀ i l, L[i]? = some l → w1.cell? ⟨b, i, none⟩ = some (.string (B l))) := ⟨hbl, hcell⟩
      have HB1 := Lib.hid hb1
      clear hbl hcell hb1 CEl HREST
      go_wp2
      go_loopg [48] (L.length + 1) (fun g v48 wr => ∃ k : Nat, v48 = .int .i64 k ∧ L.length < k + g ∧ k ≤ L.length ∧ Bl w1 wr ∧ Hid (R = ((L.drop k).any (Pe.badX kind) || s.data.toList.head? == some 45)))
      case atStart => exact ⟨0, rfl, by omega, by omega, Bl.refl _, H0⟩
      case round =>
        clear H0 hlt hk hkk
        obtain ⟨k, rfl, hg, hk, hbl, HK⟩ := hrel
        have HB := Lib.hid hbl
        clear hbl
        by_cases hlt : k < L.length
        · obtain ⟨x, hx⟩ : ∃ x, L[k]? = some x := ⟨_, List.getElem?_eq_getElem hlt⟩
          have hcell : wr.cell? ⟨b, k, none⟩ = some (.string (B x)) := (HB.out.cell HC.out.1).trans (HC.out.2 k x hx)
          have hxl := HP.out x (List.mem_of_getElem? hx)
          obtain ⟨c1, hc1⟩ : ∃ f, x.contains 126 = f := ⟨_, rfl⟩
          obtain ⟨c2, hc2⟩ : ∃ f, x.contains 46 = f := ⟨_, rfl⟩
          have C1 := Lib.hid fun w => in_calls 126 126 rfl (B x) c1 (by rw [B_data]; exact hc1) w (by rw [B_size]; omega)
          have C2 := Lib.hid fun w => in_calls 46 46 rfl (B x) c2 (by rw [B_data]; exact hc2) w (by rw [B_size]; omega)
          have HK2 : Hid (R = ((c1 && (kind == 2 || c2)) || ((L.drop (k + 1)).any (Pe.badX kind) || s.data.toList.head? == some 45))) := by
            show _ = _
            obtain ⟨_, hx'⟩ := List.getElem?_eq_some_iff.1 hx
            rw [HK.out, List.drop_eq_getElem_cons hlt, hx', List.any_cons, Bool.or_assoc]
            unfold Pe.badX
            rw [hc1, hc2]
          have hlt' : (k : Int) < (L.length : Int) := by omega
          have k2 : kind = 2 ∨ kind ≠ 2 := by omega
          generalize B x = X at *
          clear HK hx hxl hc1 hc2
          cases c1 with
          | false =>
            have HN : Hid (R = ((L.drop (k + 1)).any (Pe.badX kind) || s.data.toList.head? == some 45)) := HK2.out
            clear HK2 C2
            go_wp2_with fail
            refine (C1.out _).mono ?_
            rintro e w2 ⟨rfl, d2⟩
            have HB2 := Lib.hid (HB.out.dr d2)
            clear d2 hcell
            go_wp2
            go_roundg (gk - 1)
            case measure => omega
            case rel => exact ⟨k + 1, by go_num, by omega, by omega, HB2.out, HN⟩
          | true =>
            rcases k2 with rfl | k2
            · obtain rfl : R = true := HK2.out
              clear HK2 C2 hg
              go_wp2_with fail
              refine (C1.out _).mono ?_
              rintro e w2 ⟨rfl, d2⟩
              have HB2 := Lib.hid (HB1.out.trans (HB.out.dr d2))
              clear d2 hcell
              go_wp2
              go_ret
              exact ⟨rfl, HB2.out⟩
            · have e2 : ((kind : Int) == 2) = false := beq_eq_false_iff_ne.2 (by omega)
              have HK3 : Hid (R = (c2 || ((L.drop (k + 1)).any (Pe.badX kind) || s.data.toList.head? == some 45))) := by
                show _ = _; rw [HK2.out, beq_eq_false_iff_ne.2 k2]; rfl
              clear HK2
              cases c2 with
              | false =>
                have HN : Hid (R = ((L.drop (k + 1)).any (Pe.badX kind) || s.data.toList.head? == some 45)) := HK3.out
                clear HK3
                go_wp2_with fail
                refine (C1.out _).mono ?_
                rintro e w2 ⟨rfl, d2⟩
                go_wp2_with fail
                refine (C2.out _).mono ?_
                rintro e w3 ⟨rfl, d3⟩
                have HB2 := Lib.hid ((HB.out.dr d2).dr d3)
                clear d2 d3 hcell
                go_wp2
                go_roundg (gk - 1)
                case measure => omega
                case rel => exact ⟨k + 1, by go_num, by omega, by omega, HB2.out, HN⟩
              | true =>
                obtain rfl : R = true := HK3.out
                clear HK3 hg
                go_wp2_with fail
                refine (C1.out _).mono ?_
                rintro e w2 ⟨rfl, d2⟩
                go_wp2_with fail
                refine (C2.out _).mono ?_
                rintro e w3 ⟨rfl, d3⟩
                have HB2 := Lib.hid (HB1.out.trans ((HB.out.dr d2).dr d3))
                clear d2 d3 hcell
                go_wp2
                go_ret
                exact ⟨rfl, HB2.out⟩
        · have hR : R = (s.data.toList.head? == some 45) := by rw [HK.out, List.drop_eq_nil_of_le (by omega)]; rfl
          have hlt' : ¬ (k : Int) < (L.length : Int) := by omega
          have HB2 := Lib.hid (HB1.out.trans HB.out)
          by_cases h0 : 0 < s.size
          · obtain ⟨c0, hc0⟩ : ∃ c0 : UInt8, s[0]'h0 = c0 := ⟨_, rfl⟩
            rw [head_eq h0, hc0] at hR
            have h0' : (0 : Int) < (s.size : Int) := by omega
            by_cases h45 : c0 = 45
            · obtain rfl : R = true := by rw [hR, h45]; rfl
              have e45 : ((c0.toNat : Int) == 45) = true := by rw [h45]; rfl
              clear HK hg hR h45
              go_wp2
              go_ret
              exact ⟨rfl, HB2.out⟩
            · obtain rfl : R = false := by rw [hR, beq_eq_false_iff_ne]; simpa using h45
              have e45 : ((c0.toNat : Int) == 45) = false := ne_nat h45
              clear HK hg hR h45
              go_wp2
              go_ret
              exact ⟨rfl, HB2.out⟩
          · obtain rfl : R = false := by
              rw [hR, show s.data.toList = [] from List.eq_nil_of_length_eq_zero (by rw [← Lib.size_eq]; omega)]; rfl
            have h0' : ¬ (0 : Int) < (s.size : Int) := by omega
            clear HK hg hR
            go_wp2
            go_ret
            exact ⟨rfl, HB2.out⟩
end Go.Proofs.YtndimgajkjkgfaaDoor
