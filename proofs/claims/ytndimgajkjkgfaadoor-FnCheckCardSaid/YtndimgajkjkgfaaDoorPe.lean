/- What a part of a path is, by the reference, and that the program says the same of each part of which it is asked. Plain Lean, no program in sight. -/
import Derived.Test.YtndimgajkjkgfaaDoorMdP
import Derived.Test.YtndimgajkjkgfaaDoorPth
namespace Go.Proofs.YtndimgajkjkgfaaDoor
open Str
set_option linter.unusedVariables false
namespace Pe
open Ver (dig split)

def s1 : List UInt8 := [45, 46, 95, 126]
def s2 : List UInt8 := [33, 35, 36, 37, 38, 40, 41, 43, 44, 61, 64, 91, 93, 94, 123, 125, 32]
def charOk (kind : Nat) (c : UInt8) : Bool := alnum c.toNat || (s1.contains c || (decide (2 ≤ kind) && s2.contains c))
def low (c : UInt8) : UInt8 := if 65 ≤ c.toNat ∧ c.toNat ≤ 90 then c + 32 else c
def four (m : List UInt8) : Bool := m == [99, 111, 110] || (m == [112, 114, 110] || (m == [97, 117, 120] || m == [110, 117, 108]))
def num4 (m : List UInt8) : Bool := decide (m.length = 4) && ((m.take 3 == [99, 111, 109] || m.take 3 == [108, 112, 116]) && (m[3]?).any fun d => decide (49 ≤ d.toNat ∧ d.toNat ≤ 57))
def reserved (l : List UInt8) : Bool := four (l.map low) || num4 (l.map low)
def tilde (l : List UInt8) : Bool := decide (Pth.bk dig l l.length < l.length) && (decide (0 < Pth.bk dig l l.length) && l[Pth.bk dig l l.length - 1]? == some 126)
/-- the reference's Element -/
def element (kind : Nat) (l : List UInt8) : Bool :=
  !l.isEmpty && ((l.getLast? != some 46) && (!(kind == 0 && l.head? == some 46) && (l.all (charOk kind) && (!reserved (short l) && (kind == 2 || !tilde l)))))

theorem char_same0 (c : UInt8) : runeOk 0 c.toNat = charOk 0 c := by
  have h : ∀ n : Fin 256, runeOk 0 n.val = charOk 0 (UInt8.ofNat n.val) := by decide +kernel
  have := h ⟨c.toNat, c.toNat_lt⟩
  simpa using this
theorem char_same1 (c : UInt8) (hc : c ≠ 43) : runeOk 1 c.toNat = charOk 1 c := by
  have h : ∀ n : Fin 256, n.val ≠ 43 → runeOk 1 n.val = charOk 1 (UInt8.ofNat n.val) := by decide +kernel
  have := h ⟨c.toNat, c.toNat_lt⟩ (fun e => hc (UInt8.toNat_inj.1 e))
  simpa using this
theorem char_same2 (c : UInt8) : runeOk 2 c.toNat = charOk 2 c := by
  have h : ∀ n : Fin 256, runeOk 2 n.val = charOk 2 (UInt8.ofNat n.val) := by decide +kernel
  have := h ⟨c.toNat, c.toNat_lt⟩
  simpa using this

theorem low_nat (x : UInt8) : (low x).toNat = if 65 ≤ x.toNat ∧ x.toNat ≤ 90 then x.toNat + 32 else x.toNat := by
  unfold low
  split
  · rw [UInt8.toNat_add]; show (x.toNat + 32) % 256 = _; omega
  · rfl
theorem fold_low (x y : UInt8) : Lib.foldEq x y = (low x == low y) := by
  unfold Lib.foldEq
  rw [Bool.eq_iff_iff, decide_eq_true_eq, beq_iff_eq, ← UInt8.toNat_inj, low_nat, low_nat]
  split <;> split <;> omega

theorem equalFold_low : ∀ a b : List UInt8, Lib.equalFold a b = (a.map low == b.map low)
  | [], [] => rfl
  | [], _ :: _ => rfl
  | _ :: _, [] => rfl
  | x :: a, y :: b => by
    rw [Lib.equalFold, equalFold_low a b, fold_low, List.map_cons, List.map_cons]
    rw [Bool.eq_iff_iff, Bool.and_eq_true, beq_iff_eq, beq_iff_eq, beq_iff_eq, List.cons.injEq]

theorem names_low (m : List UInt8) : (NAMES.any fun b => b.map low == m) = (four m || num4 m) := by
  have e : NAMES.map (fun b => b.map low) = [[99, 111, 110], [112, 114, 110], [97, 117, 120], [110, 117, 108], [99, 111, 109, 49], [99, 111, 109, 50], [99, 111, 109, 51], [99, 111, 109, 52], [99, 111, 109, 53], [99, 111, 109, 54], [99, 111, 109, 55], [99, 111, 109, 56], [99, 111, 109, 57],
      [108, 112, 116, 49], [108, 112, 116, 50], [108, 112, 116, 51], [108, 112, 116, 52], [108, 112, 116, 53], [108, 112, 116, 54], [108, 112, 116, 55], [108, 112, 116, 56], [108, 112, 116, 57]] := by decide
  have e2 : (NAMES.any fun b => b.map low == m) = (NAMES.map (fun b => b.map low)).any (fun b => b == m) := by rw [List.any_map]; rfl
  rw [e2, e, Bool.eq_iff_iff]
  unfold four num4
  match m with
  | [] => decide
  | [a] => simp
  | [a, b] => simp
  | [a, b, c] =>
    have q : ∀ x y z : UInt8, ([x, y, z] == [a, b, c]) = true ↔ (a = x ∧ b = y ∧ c = z) := fun x y z => by
      rw [beq_iff_eq]; simp only [List.cons.injEq, and_true]; exact ⟨fun ⟨h1, h2, h3⟩ => ⟨h1.symm, h2.symm, h3.symm⟩, fun ⟨h1, h2, h3⟩ => ⟨h1.symm, h2.symm, h3.symm⟩⟩
    have q' : ∀ x y z : UInt8, ([a, b, c] == [x, y, z]) = true ↔ (a = x ∧ b = y ∧ c = z) := fun x y z => by
      rw [beq_iff_eq]; simp only [List.cons.injEq, and_true]
    have q4 : ∀ x y z t : UInt8, ([x, y, z, t] == [a, b, c]) = false := fun x y z t => by rw [beq_eq_false_iff_ne]; simp
    have hn : decide (([a, b, c] : List UInt8).length = 4) = false := rfl
    rw [hn]
    simp only [List.any_cons, List.any_nil, q4, Bool.or_eq_true, q, q', Bool.false_and, Bool.false_eq_true, or_false]
  | [a, b, c, d] =>
    have q : ∀ x y z t : UInt8, ([x, y, z, t] == [a, b, c, d]) = true ↔ (([a, b, c] == [x, y, z]) = true ∧ d.toNat = t.toNat) := fun x y z t => by
      rw [beq_iff_eq, beq_iff_eq, UInt8.toNat_inj]; simp only [List.cons.injEq, and_true]
      exact ⟨fun ⟨h1, h2, h3, h4⟩ => ⟨⟨h1.symm, h2.symm, h3.symm⟩, h4.symm⟩, fun ⟨⟨h1, h2, h3⟩, h4⟩ => ⟨h1.symm, h2.symm, h3.symm, h4.symm⟩⟩
    have q3 : ∀ x y z : UInt8, ([x, y, z] == [a, b, c, d]) = false := fun x y z => by rw [beq_eq_false_iff_ne]; simp
    have q4 : ∀ x y z : UInt8, ([a, b, c, d] == [x, y, z]) = false := fun x y z => by rw [beq_eq_false_iff_ne]; simp
    have hn : decide (([a, b, c, d] : List UInt8).length = 4) = true := rfl
    have ht : ([a, b, c, d] : List UInt8).take 3 = [a, b, c] := rfl
    have h3 : ([a, b, c, d] : List UInt8)[3]? = some d := rfl
    rw [hn, ht, h3]
    generalize hA : ([a, b, c] == [99, 111, 109]) = A at *
    generalize hB : ([a, b, c] == [108, 112, 116]) = C at *
    have t49 : (49 : UInt8).toNat = 49 := rfl
    have t50 : (50 : UInt8).toNat = 50 := rfl
    have t51 : (51 : UInt8).toNat = 51 := rfl
    have t52 : (52 : UInt8).toNat = 52 := rfl
    have t53 : (53 : UInt8).toNat = 53 := rfl
    have t54 : (54 : UInt8).toNat = 54 := rfl
    have t55 : (55 : UInt8).toNat = 55 := rfl
    have t56 : (56 : UInt8).toNat = 56 := rfl
    have t57 : (57 : UInt8).toNat = 57 := rfl
    simp only [List.any_cons, List.any_nil, q3, q4, Bool.or_eq_true, q, hA, hB, t49, t50, t51, t52, t53, t54, t55, t56, t57, Bool.true_and, Bool.and_eq_true, decide_eq_true_eq, Option.any_some, Bool.false_eq_true, or_false, false_or]
    by_cases hA' : A = true <;> by_cases hB' : C = true <;> simp only [hA', hB', true_and, false_and, or_false, false_or, or_self, Bool.false_eq_true] <;> omega
  | a :: b :: c :: d :: x :: l => simp

theorem bad_same (l : List UInt8) : badName l = reserved l := by
  unfold badName reserved
  rw [← names_low]
  congr 1
  funext b
  exact equalFold_low b l

theorem lastTo_none : ∀ (l : List UInt8) (k : Nat), (126 : UInt8) ∉ l → lastTo 126 l k = -1
  | l, 0, _ => rfl
  | l, k + 1, h => by
    unfold lastTo
    rw [if_neg (fun e => h (List.mem_of_getElem? e))]
    exact lastTo_none l k h
theorem lastTo_some (l : List UInt8) (t : Nat) (ht : l[t]? = some 126) : ∀ k, t < k → (∀ j, t < j → j < k → l[j]? ≠ some 126) → lastTo 126 l k = (t : Int)
  | 0, h, _ => absurd h (by omega)
  | k + 1, h, hn => by
    unfold lastTo
    by_cases e : k = t
    · subst e; rw [if_pos ht]
    · rw [if_neg (hn k (by omega) (by omega))]
      exact lastTo_some l t ht k (by omega) (fun j h1 h2 => hn j h1 (by omega))
theorem lastTo_at (l : List UInt8) (t : Nat) : ∀ k, lastTo 126 l k = (t : Int) → t < k ∧ l[t]? = some 126 ∧ ∀ j, t < j → j < k → l[j]? ≠ some 126
  | 0, h => by cases h
  | k + 1, h => by
    unfold lastTo at h
    split at h
    case isTrue hp =>
      obtain rfl : k = t := by omega
      exact ⟨by omega, hp, fun j h1 h2 => absurd h2 (by omega)⟩
    case isFalse hp =>
      obtain ⟨h1, h2, h3⟩ := lastTo_at l t k h
      exact ⟨by omega, h2, fun j a b => if e : j = k then e ▸ hp else h3 j a (by omega)⟩

theorem tilde_same (l : List UInt8) : tildeEnd l = tilde l := by
  rw [Bool.eq_iff_iff]
  constructor
  · intro h
    rcases tilde_parts l with ⟨h1, _⟩ | ⟨h1, _⟩ | ⟨t, h1, h2, h3⟩
    · rw [h1] at h; cases h
    · rw [h1] at h; cases h
    · rw [h3] at h
      obtain ⟨a1, a2, a3⟩ := lastTo_at l t _ h1
      have hbk : Pth.bk dig l l.length = t + 1 := by
        have key : ∀ k, t + 1 ≤ k → k ≤ l.length → Pth.bk dig l k = t + 1 := fun k => by
          induction k with
          | zero => intro h _; omega
          | succ k ih =>
            intro hk1 hk2
            by_cases e : k = t
            · subst e; exact Pth.bk_no a2 (by decide)
            · have hlt : k < l.length := by omega
              have hd := List.all_eq_true.1 h (l[k]) (by
                rw [List.mem_iff_getElem]
                exact ⟨k - (t + 1), by rw [List.length_drop]; omega, by rw [List.getElem_drop]; congr 1; omega⟩)
              rw [Pth.bk_yes (List.getElem?_eq_getElem hlt) (by unfold dig; exact hd)]
              exact ih (by omega) (by omega)
        exact key _ (by omega) (Nat.le_refl _)
      unfold tilde
      rw [hbk, decide_eq_true (by omega), decide_eq_true (by omega), Nat.add_sub_cancel, a2]; rfl
  · intro h
    unfold tilde at h
    obtain ⟨k, hk⟩ : ∃ k, Pth.bk dig l l.length = k := ⟨_, rfl⟩
    rw [hk] at h
    simp only [Bool.and_eq_true, decide_eq_true_eq, beq_iff_eq] at h
    obtain ⟨h1, h2, h3⟩ := h
    have hall := Pth.bk_all dig l l.length
    rw [hk] at hall
    have hl : lastTo 126 l l.length = ((k - 1 : Nat) : Int) := lastTo_some l (k - 1) h3 _ (by omega) (fun j a b e => by
      obtain ⟨c, c1, c2⟩ := hall j (by omega) b
      rw [e] at c1
      rw [← Option.some.inj c1] at c2
      cases c2)
    unfold tildeEnd
    rw [hl, Int.toNat_natCast, Bool.and_eq_true, decide_eq_true_eq]
    refine ⟨by omega, ?_⟩
    rw [List.all_eq_true]
    intro c hc
    rw [show k - 1 + 1 = k by omega] at hc
    obtain ⟨i, hi, rfl⟩ := List.mem_iff_getElem.1 hc
    rw [List.getElem_drop]
    rw [List.length_drop] at hi
    obtain ⟨x, x1, x2⟩ := hall (k + i) (by omega) (by omega)
    obtain ⟨_, x3⟩ := List.getElem?_eq_some_iff.1 x1
    rw [x3]; exact x2

theorem short_plain {l : List UInt8} (h : (46 : UInt8) ∉ l) : short l = l := by
  unfold short
  have : ∀ m : List UInt8, (∀ c ∈ m, (c != 46) = true) → m.takeWhile (· != 46) = m := fun m => by
    induction m with
    | nil => intro _; rfl
    | cons c m ih => intro hm; rw [List.takeWhile_cons, if_pos (hm c List.mem_cons_self), ih fun x hx => hm x (List.mem_cons_of_mem _ hx)]
  exact this l fun c hc => by rw [bne_iff_ne]; rintro rfl; exact h hc

/-- of what the program is asked: a part without a plus where it is not of a file, without a tilde in a file's or beside a point -/
def asked (kind : Nat) (l : List UInt8) : Prop := (kind < 2 → (43 : UInt8) ∉ l) ∧ ((126 : UInt8) ∈ l → kind ≠ 2 ∧ (46 : UInt8) ∉ l)

theorem tilde_short {l : List UInt8} (h : (126 : UInt8) ∈ l → (46 : UInt8) ∉ l) : tildeEnd (short l) = tilde l := by
  by_cases hm : (126 : UInt8) ∈ l
  · rw [short_plain (h hm), tilde_same]
  · rw [tilde_same]
    have : ∀ m : List UInt8, (126 : UInt8) ∉ m → tilde m = false := fun m hm => by
      cases ht : tilde m with
      | false => rfl
      | true =>
        unfold tilde at ht
        simp only [Bool.and_eq_true, beq_iff_eq] at ht
        exact absurd (List.mem_of_getElem? ht.2.2) hm
    rw [this l hm, this (short l) (fun h => hm ((List.takeWhile_sublist _).subset h))]

theorem elem_same {kind : Nat} {l : List UInt8} (hk : kind ≤ 2) (h : asked kind l) : elemOk kind l = element kind l := by
  rw [elem_split]
  unfold element
  cases l with
  | nil => rfl
  | cons c t =>
    rw [show (c :: t).isEmpty = false from rfl, Bool.not_false, Bool.true_and, Bool.true_and]
    by_cases hl : (c :: t).getLast? = some 46
    · rw [show ((c :: t).getLast? != some 46) = false by rw [hl]; rfl]
      simp
    · rw [show ((c :: t).getLast? != some 46) = true from bne_iff_ne.2 hl]
      have hcnt : ((c :: t).count 46 != (c :: t).length) = true := by
        rw [bne_iff_ne]
        intro e
        have := List.count_eq_length.1 e
        cases hg : (c :: t).getLast? with
        | none => simp at hg
        | some x =>
          have hx := this x (List.mem_of_getLast? hg)
          rw [hg, ← hx] at hl; exact hl rfl
      have e0 : ((c :: t).head? == some 46 && kind == 0) = (kind == 0 && (c :: t).head? == some 46) := Bool.and_comm _ _
      rw [hcnt, Bool.true_and, Bool.true_and, Bool.true_and, bad_same, e0]
      have e1 : ((c :: t).all fun c => runeOk kind c.toNat) = (c :: t).all (charOk kind) := by
        rw [Bool.eq_iff_iff, List.all_eq_true, List.all_eq_true]
        refine forall_congr' fun x => forall_congr' fun hx => ?_
        rcases (by omega : kind = 0 ∨ kind = 1 ∨ kind = 2) with rfl | rfl | rfl
        · rw [char_same0]
        · rw [char_same1 x (fun e => h.1 (by omega) (e ▸ hx))]
        · rw [char_same2]
      have e2 : (kind == 2 || !tildeEnd (short (c :: t))) = (kind == 2 || !tilde (c :: t)) := by
        rw [tilde_short fun hm => (h.2 hm).2]
      rw [e1, e2]
end Pe
end Go.Proofs.YtndimgajkjkgfaaDoor
