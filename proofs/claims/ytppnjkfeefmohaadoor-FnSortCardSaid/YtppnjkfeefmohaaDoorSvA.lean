/- Walks of the small functions of package semver: parseInt. -/
import Derived.Test.YtppnjkfeefmohaaDoorProg
import Derived.Test.YtppnjkfeefmohaaDoorVer
import Derived.Test.YtppnjkfeefmohaaDoorBs
import Derived.WalkKit
import Derived.RowKit3
import Derived.Deep.LoopGhost
import Derived.Deep.QuietTactic
import Derived.BigQuiet
import Derived.WalkLawsBesides
import Derived.WalkSpells
import Derived.Lib.Hide
import Derived.Outline
namespace Go.Proofs.YtppnjkfeefmohaaDoor
open Go.RowKit Str Ver
set_option linter.unusedVariables false

def parseIntV (l : List UInt8) : Value := match num l with
  | some (d, r) => .tuple #[.string (B d), .string (B r), .bool true]
  | none => .tuple #[.string (B []), .string (B []), .bool false]

theorem num_first {l : List UInt8} {c : UInt8} (h : l[0]? = some c) (hc : dig c = false) : num l = none := by
  cases l with
  | nil => rfl
  | cons d m =>
    simp only [List.getElem?_cons_zero, Option.some.injEq] at h
    subst h
    simp [num, hc]

/-- figures up to a place -/
theorem num_upto {l : List UInt8} {c : UInt8} {k : Nat} (h0 : l[0]? = some c) (hk : 1 ≤ k) (hs : Scan dig l k) (he : ∀ c, l[k]? = some c → dig c = false) :
    num l = if c = 48 ∧ k ≠ 1 then none else some (l.take k, l.drop k) := by
  obtain ⟨ht, hdr⟩ := hs.stop he
  have hkl := hs.1
  unfold num
  simp only [ht, hdr]
  have hl : (l.take k).length = k := by rw [List.length_take]; omega
  have hne : l.take k ≠ [] := by intro e; rw [e] at hl; simp at hl; omega
  have hh : (l.take k).head? = some c := by
    cases l with
    | nil => simp at h0
    | cons d m =>
      obtain ⟨k, rfl⟩ : ∃ j, k = j + 1 := ⟨k - 1, by omega⟩
      simpa using h0
  rw [if_neg hne, hh, hl]
  by_cases e : c = 48
  · by_cases f : k = 1
    · rw [if_neg (by omega), if_neg (by simp [f])]
    · rw [if_pos ⟨by rw [e], by omega⟩, if_pos ⟨e, f⟩]
  · rw [if_neg (by simp [e]), if_neg (by simp [e])]

theorem parseIntV_none {l : List UInt8} (h : num l = none) : parseIntV l = .tuple #[.string (B []), .string (B []), .bool false] := by unfold parseIntV; rw [h]
theorem parseIntV_some {l d r : List UInt8} (h : num l = some (d, r)) : parseIntV l = .tuple #[.string (B d), .string (B r), .bool true] := by unfold parseIntV; rw [h]

set_option maxHeartbeats 1000000 in
theorem parseInt_calls (s : ByteArray) (w : World) (hs : s.size ≤ 140737488351232) :
    Calls Tryd.prog 61 #[.string s] w fun e w' => e = .returned (parseIntV s.data.toList) ∧ Drew w w' := by
  by_cases hz : s.size = 0
  · obtain rfl := size_zero hz
    have h1 := toList_nil
    go_enter Tryd.func61, Tryd.ntmps61
    go_wp2
    go_ret3
    exact ⟨rfl, Drew.refl _⟩
  have hp : 0 < s.size := by omega
  have h1 := toList_ne hp
  obtain ⟨c, hc⟩ : ∃ c : UInt8, s[0]'hp = c := ⟨_, rfl⟩
  have H0 := Lib.hid (byte_at' s 0 hp hc)
  by_cases hlo : (c.toNat : Int) < 48
  · have Hn := Lib.hid (num_first H0.out (show dig c = false by unfold dig; simp; omega))
    go_enter Tryd.func61, Tryd.ntmps61
    go_wp2
    go_ret3
    exact ⟨by rw [parseIntV_none Hn.out]; rfl, Drew.refl _⟩
  by_cases hhi : 57 < (c.toNat : Int)
  · have Hn := Lib.hid (num_first H0.out (show dig c = false by unfold dig; simp; omega))
    go_enter Tryd.func61, Tryd.ntmps61
    go_wp2
    go_ret3
    exact ⟨by rw [parseIntV_none Hn.out]; rfl, Drew.refl _⟩
  have S1 := (Scan.zero dig s.data.toList).next H0.out (show dig c = true by unfold dig; simp; omega)
  have tail : ∀ k : Nat, 1 ≤ k → k ≤ s.size → Scan dig s.data.toList k → (∀ d, s.data.toList[k]? = some d → dig d = false) →
      ((((c.toNat : Int) == 48) = true ∧ ((k : Int) != 1) = true ∧ Hid (parseIntV s.data.toList = .tuple #[.string (B []), .string (B []), .bool false])) ∨
        (((c.toNat : Int) == 48) = true ∧ ((k : Int) != 1) = false ∧ Hid (parseIntV s.data.toList = .tuple #[.string (s.extract 0 k), .string (s.extract k s.size), .bool true])) ∨
        (((c.toNat : Int) == 48) = false ∧ Hid (parseIntV s.data.toList = .tuple #[.string (s.extract 0 k), .string (s.extract k s.size), .bool true]))) := by
    intro k hk1 hk hS he
    have hn := num_upto H0.out hk1 hS he
    have e1 : s.extract 0 k = B (s.data.toList.take k) := by conv => lhs; rw [← B_of s]; rw [B_front]
    have e2 : s.extract k s.size = B (s.data.toList.drop k) := by
      have := B_from s.data.toList k
      rw [B_of s] at this; exact this
    by_cases e : c = 48
    · by_cases f : k = 1
      · refine .inr (.inl ⟨by rw [e]; rfl, by rw [f]; rfl, ?_⟩)
        rw [if_neg (by simp [f])] at hn
        rw [e1, e2]; exact parseIntV_some hn
      · refine .inl ⟨by rw [e]; rfl, by rw [bne_iff_ne]; omega, ?_⟩
        rw [if_pos ⟨e, f⟩] at hn
        exact parseIntV_none hn
    · refine .inr (.inr ⟨ne_nat e, ?_⟩)
      rw [if_neg (by simp [e])] at hn
      rw [e1, e2]; exact parseIntV_some hn
  have TL := Lib.hid tail
  clear tail
  go_enter Tryd.func61, Tryd.ntmps61
  go_wp2
  go_loopg [5] (s.size + 1) (fun g v wr => ∃ k : Nat, v = .int .i64 k ∧ 1 ≤ k ∧ s.size < k + g ∧ w = wr ∧ Scan dig s.data.toList k)
  case atStart => exact ⟨1, rfl, by omega, by omega, rfl, S1⟩
  case round =>
    obtain ⟨k, rfl, h2, hg, rfl, HS⟩ := hrel
    have hk : k ≤ s.size := by have := HS.1; rw [← Lib.size_eq] at this; exact this
    by_cases hlt : k < s.size
    · obtain ⟨d, hd⟩ : ∃ d : UInt8, s[k]'hlt = d := ⟨_, rfl⟩
      have HD := Lib.hid (byte_at' s k hlt hd)
      by_cases hlo2 : 48 ≤ (d.toNat : Int)
      · by_cases hhi2 : (d.toNat : Int) ≤ 57
        · have SN := HS.next HD.out (show dig d = true by unfold dig; simp; omega)
          clear H0 TL HD
          go_wp2
          go_roundg (gk - 1)
          case measure => omega
          case rel => exact ⟨k + 1, by go_num, by omega, by omega, rfl, SN⟩
        · rcases TL.out k h2 hk HS (fun x hx => by rw [HD.out] at hx; cases hx; unfold dig; simp; omega) with ⟨t1, t2, HV⟩ | ⟨t1, t2, HV⟩ | ⟨t1, HV⟩
          all_goals
            clear H0 TL HD hg
            go_wp2
            try (go_quiet (fail); try go_wp2)
            go_ret3
            exact ⟨by rw [HV.out]; rfl, (by first | exact Drew.refl _ | exact ⟨_, rfl⟩)⟩
      · rcases TL.out k h2 hk HS (fun x hx => by rw [HD.out] at hx; cases hx; unfold dig; simp; omega) with ⟨t1, t2, HV⟩ | ⟨t1, t2, HV⟩ | ⟨t1, HV⟩
        all_goals
          clear H0 TL HD hg
          go_wp2
          try (go_quiet (fail); try go_wp2)
          go_ret3
          exact ⟨by rw [HV.out]; rfl, (by first | exact Drew.refl _ | exact ⟨_, rfl⟩)⟩
    · rcases TL.out k h2 hk HS (fun x hx => by rw [byte_none s k hlt] at hx; cases hx) with ⟨t1, t2, HV⟩ | ⟨t1, t2, HV⟩ | ⟨t1, HV⟩
      all_goals
        clear H0 TL hg
        go_wp2
        try (go_quiet (fail); try go_wp2)
        go_ret3
        exact ⟨by rw [HV.out]; rfl, (by first | exact Drew.refl _ | exact ⟨_, rfl⟩)⟩
#print axioms parseInt_calls
end Go.Proofs.YtppnjkfeefmohaaDoor
