/- Sorted lists, told plainly: that a good order is one that a sort asks for; that the insertion sort, under no more than 'one of two is not less', leaves no later neighbour less than an earlier one; and the marks by which a law sees that nothing is lost. Plain Lean, no program in sight. -/
import Derived.Test.YtppnjkfeefmohaaDoorVer
import Derived.Sort.LotA
import Derived.Lib.Bytealg
namespace Go.Proofs.YtppnjkfeefmohaaDoor
namespace Srt
open Go.Sort

/-- less, out of a comparison -/
def lt {α : Type} (c : α → α → Int) (x y : α) : Bool := decide (c x y < 0)

theorem lt_false {α : Type} {c : α → α → Int} {x y : α} : lt c x y = false ↔ 0 ≤ c x y := by
  unfold lt
  rw [decide_eq_false_iff_not]; omega
theorem lt_true {α : Type} {c : α → α → Int} {x y : α} : lt c x y = true ↔ c x y < 0 := by
  unfold lt
  rw [decide_eq_true_eq]

theorem swo {α : Type} {c : α → α → Int} (h : Cmp.Good c) : SWO (lt c) where
  irrefl x := lt_false.2 (by rw [h.self]; exact Int.le_refl _)
  trans x y z h1 h2 := lt_true.2 (h.lt_le (lt_true.1 h1) (Int.le_of_lt (lt_true.1 h2)))
  ntrans x y z h1 h2 := by
    have a1 := lt_false.1 h1
    have a2 := lt_false.1 h2
    have e1 := h.anti x y
    have e2 := h.anti y z
    have e3 := h.anti x z
    have := h.trans z y x (by omega) (by omega)
    exact lt_false.2 (by omega)

section
variable {α : Type} [Inhabited α] {lt : α → α → Bool}

/-- neighbours stand as they should, but for those at the place j -/
structure Adj (lt : α → α → Bool) (a j i : Nat) (d : Array α) : Prop where
  rest : ∀ p, a < p → p ≤ i → p ≠ j → p ≠ j + 1 → lt d[p]! d[p - 1]! = false
  skip : j + 1 ≤ i → a < j → lt d[j + 1]! d[j - 1]! = false
  right : j + 1 ≤ i → lt d[j]! d[j + 1]! = true

theorem Adj.stop (hA : ∀ x y, lt x y = true → lt y x = false) {a j i : Nat} {d : Array α} (h : Adj lt a j i d) (hs : j ≤ a ∨ lt d[j]! d[j - 1]! = false) : ∀ p, a < p → p < i + 1 → lt d[p]! d[p - 1]! = false := by
  intro p h1 h2
  by_cases e : p = j
  · subst e
    rcases hs with hs | hs
    · omega
    · exact hs
  · by_cases e2 : p = j + 1
    · subst e2
      exact hA _ _ (h.right (by omega))
    · exact h.rest p h1 (by omega) e e2

theorem Adj.step {a j i : Nat} {d : Array α} (h : Adj lt a (j + 1) i d) (hl : lt d[j + 1]! d[j]! = true) (haj : a ≤ j) (hji : j + 1 ≤ i) (hsz : j + 1 < d.size) : Adj lt a j i (swp d (j + 1) j) := by
  have g := swp_get d hsz (show j < d.size by omega)
  refine ⟨fun p h1 h2 h3 h4 => ?_, fun h1 h2 => ?_, fun h1 => ?_⟩
  · rw [g, g, if_neg h3, if_neg h4]
    by_cases e : p = j + 2
    · subst e
      rw [show j + 2 - 1 = j + 1 by omega, if_neg (by omega), if_pos rfl]
      have := h.skip (by omega) (by omega)
      rw [show j + 1 - 1 = j by omega] at this
      exact this
    · rw [if_neg (by omega), if_neg (by omega)]
      exact h.rest p h1 h2 h4 e
  · rw [g, g, if_neg (by omega), if_pos rfl, if_neg (by omega), if_neg (by omega)]
    exact h.rest j h2 (by omega) (by omega) (by omega)
  · rw [g, g, if_pos rfl, if_neg (by omega), if_pos rfl]
    exact hl

theorem inner_adj (hA : ∀ x y, lt x y = true → lt y x = false) (a b i : Nat) (hib : i < b) :
    ∀ (j : Nat) (d : Array α), a ≤ j → j ≤ i → b ≤ d.size → Adj lt a j i d → PermIn a b d (insInner lt a j d) ∧ ∀ p, a < p → p < i + 1 → lt (insInner lt a j d)[p]! (insInner lt a j d)[p - 1]! = false
  | 0, d, _, _, _, hI => by
    unfold insInner
    exact ⟨permIn_refl d a b, hI.stop hA (Or.inl (Nat.zero_le _))⟩
  | j + 1, d, haj, hji, hb, hI => by
    unfold insInner
    split
    · rename_i hc
      simp only [Bool.and_eq_true, decide_eq_true_eq] at hc
      have ih := inner_adj hA a b i hib j (swp d (j + 1) j) (by omega) (by omega) (by rw [swp_size]; exact hb) (hI.step hc.2 (by omega) (by omega) (by omega))
      exact ⟨permIn_trans _ _ _ a b (swp_permIn d a b (j + 1) j haj (by omega) (by omega) (by omega) hb) ih.1, ih.2⟩
    · rename_i hc
      simp only [Bool.and_eq_true, decide_eq_true_eq, not_and, Bool.not_eq_true] at hc
      refine ⟨permIn_refl d a b, hI.stop hA ?_⟩
      by_cases h : j + 1 > a
      · exact Or.inr (by simpa using hc h)
      · exact Or.inl (by omega)

theorem outer_adj (hA : ∀ x y, lt x y = true → lt y x = false) (a b : Nat) :
    ∀ (n i : Nat) (d : Array α), b - i = n → a < i → i ≤ b → b ≤ d.size → (∀ p, a < p → p < i → lt d[p]! d[p - 1]! = false) →
      PermIn a b d (insOuter lt a b i d) ∧ ∀ p, a < p → p < b → lt (insOuter lt a b i d)[p]! (insOuter lt a b i d)[p - 1]! = false
  | 0, i, d, hn, _, hib, _, hs => by
    obtain rfl : i = b := by omega
    rw [insOuter, if_neg (by omega)]
    exact ⟨permIn_refl d a i, hs⟩
  | n + 1, i, d, hn, hai, hib, hb, hs => by
    have hlt : i < b := by omega
    rw [insOuter, if_pos hlt]
    have h1 := inner_adj hA a b i hlt i d (by omega) (Nat.le_refl _) hb ⟨fun p h1 h2 h3 _ => hs p h1 (by omega), fun h => by omega, fun h => by omega⟩
    have h2 := outer_adj hA a b n (i + 1) (insInner lt a i d) (by omega) (by omega) (by omega) (by rw [h1.1.1]; exact hb) h1.2
    exact ⟨permIn_trans _ _ _ a b h1.1 h2.1, h2.2⟩

theorem insertion_adj (hA : ∀ x y, lt x y = true → lt y x = false) (d : Array α) :
    PermIn 0 d.size d (insertionSort lt d 0 d.size) ∧ ∀ p, 0 < p → p < d.size → lt (insertionSort lt d 0 d.size)[p]! (insertionSort lt d 0 d.size)[p - 1]! = false := by
  unfold insertionSort
  by_cases h : d.size = 0
  · rw [h, insOuter, if_neg (by omega)]
    exact ⟨permIn_refl d 0 0, fun p _ h => by omega⟩
  · exact outer_adj hA 0 d.size _ 1 d rfl (by omega) (by omega) (Nat.le_refl _) (fun p h1 h2 => by omega)

theorem permIn_perm {d d' : Array α} (h : PermIn 0 d.size d d') : d'.toList.Perm d.toList := by
  have h2 := h.2.2
  have e1 : d'.extract 0 d.size = d' := by rw [← h.1]; simp
  have e2 : d.extract 0 d.size = d := by simp
  rw [e1, e2] at h2
  exact h2
end

/-- what is not marked -/
def left {α : Type} : List α → List Bool → List α
  | y :: l, b :: u => if b then left l u else y :: left l u
  | _, _ => []

theorem left_all {α : Type} : ∀ l : List α, left l (List.replicate l.length false) = l
  | [] => rfl
  | y :: l => by
    rw [List.length_cons, List.replicate_succ]
    unfold left
    rw [if_neg (by decide), left_all l]

section
variable {α : Type} [DecidableEq α]

/-- the first place that is not marked and holds x: marked -/
def mark (x : α) : List α → List Bool → Bool × List Bool
  | y :: l, b :: u => if b = false ∧ x = y then (true, true :: u) else ((mark x l u).1, b :: (mark x l u).2)
  | _, u => (false, u)

theorem mark_len (x : α) : ∀ (l : List α) (u : List Bool), (mark x l u).2.length = u.length
  | [], u => by unfold mark; rfl
  | y :: l, [] => rfl
  | y :: l, b :: u => by
    unfold mark
    split
    · simp
    · simp [mark_len x l u]

theorem mark_found (x : α) : ∀ (l : List α) (u : List Bool), x ∈ left l u → (mark x l u).1 = true ∧ (left l (mark x l u).2).Perm ((left l u).erase x)
  | [], u, h => by unfold left at h; cases h
  | y :: l, [], h => by unfold left at h; cases h
  | y :: l, b :: u, h => by
    by_cases hh : b = false ∧ x = y
    · obtain ⟨rfl, rfl⟩ := hh
      have e : mark x (x :: l) (false :: u) = (true, true :: u) := by unfold mark; rw [if_pos ⟨rfl, rfl⟩]
      rw [e]
      refine ⟨rfl, ?_⟩
      have e1 : left (x :: l) (true :: u) = left l u := by rw [left, if_pos rfl]
      have e2 : left (x :: l) (false :: u) = x :: left l u := by rw [left, if_neg (by decide)]
      rw [e1, e2, List.erase_cons_head]
    · have e : mark x (y :: l) (b :: u) = ((mark x l u).1, b :: (mark x l u).2) := by rw [mark, if_neg hh]
      rw [e]
      cases b with
      | true =>
        have e1 : ∀ v, left (y :: l) (true :: v) = left l v := fun v => by rw [left, if_pos rfl]
        rw [e1] at h ⊢
        obtain ⟨h1, h2⟩ := mark_found x l u h
        refine ⟨h1, ?_⟩
        show (left (y :: l) (true :: _)).Perm _
        rw [e1]; exact h2
      | false =>
        have e1 : ∀ v, left (y :: l) (false :: v) = y :: left l v := fun v => by rw [left, if_neg (by decide)]
        have hne : x ≠ y := fun e => hh ⟨rfl, e⟩
        rw [e1] at h ⊢
        obtain ⟨h1, h2⟩ := mark_found x l u ((List.mem_cons.1 h).resolve_left hne)
        refine ⟨h1, ?_⟩
        show (left (y :: l) (false :: _)).Perm _
        have e2 : (y :: left l u).erase x = y :: (left l u).erase x := List.erase_cons_tail (by simpa using fun e : y = x => hne e.symm)
        rw [e1, e1, e2]
        exact h2.cons y

/-- the state of the inner loop at place j: whether it was found, and the marks -/
def At (x : α) (l : List α) (u : List Bool) (j : Nat) (f : Bool) (v : List Bool) : Prop :=
  v.length = u.length ∧ match f with
  | true => mark x l u = (true, v)
  | false => v = u ∧ mark x l u = ((mark x (l.drop j) (u.drop j)).1, u.take j ++ (mark x (l.drop j) (u.drop j)).2)

theorem At.start (x : α) (l : List α) (u : List Bool) : At x l u 0 false u := ⟨rfl, rfl, by simp⟩
theorem At.keep {x : α} {l : List α} {u v : List Bool} {j k : Nat} (h : At x l u j true v) : At x l u k true v := h
theorem At.miss {x : α} {l : List α} {u v : List Bool} {j : Nat} {y : α} {b : Bool} (h : At x l u j false v) (hl : l[j]? = some y) (hu : u[j]? = some b) (hn : ¬ (b = false ∧ x = y)) : At x l u (j + 1) false v := by
  obtain ⟨h1, h2, h3⟩ := h
  obtain ⟨q1, rfl⟩ := List.getElem?_eq_some_iff.1 hl
  obtain ⟨q2, rfl⟩ := List.getElem?_eq_some_iff.1 hu
  refine ⟨h1, h2, ?_⟩
  rw [h3, List.drop_eq_getElem_cons q1, List.drop_eq_getElem_cons q2, mark, if_neg hn, List.take_succ_eq_append_getElem q2, List.append_assoc]
  rfl
theorem At.hit {x : α} {l : List α} {u v : List Bool} {j : Nat} (h : At x l u j false v) (hl : l[j]? = some x) (hu : u[j]? = some false) : At x l u (j + 1) true (v.set j true) := by
  obtain ⟨h1, rfl, h3⟩ := h
  obtain ⟨q1, e1⟩ := List.getElem?_eq_some_iff.1 hl
  obtain ⟨q2, e2⟩ := List.getElem?_eq_some_iff.1 hu
  refine ⟨by simp, ?_⟩
  show mark x l v = (true, v.set j true)
  rw [h3, List.drop_eq_getElem_cons q1, List.drop_eq_getElem_cons q2, mark, if_pos ⟨e2, e1.symm⟩, List.set_eq_take_append_cons_drop, if_pos q2]
theorem At.over {x : α} {l : List α} {u v : List Bool} {j : Nat} {f : Bool} (h : At x l u j f v) (hl : l.length ≤ j) : mark x l u = (f, v) := by
  obtain ⟨h1, h2⟩ := h
  cases f with
  | true => exact h2
  | false =>
    obtain ⟨rfl, h3⟩ := h2
    have e : ∀ w : List Bool, mark x [] w = (false, w) := fun w => by unfold mark; rfl
    rw [h3, List.drop_eq_nil_of_le hl, e, List.take_append_drop]

/-- the outer loop: what is not marked is what is still to come -/
theorem still {l out : List α} {u : List Bool} {i : Nat} {x : α} (h : (left l u).Perm (out.drop i)) (hx : out[i]? = some x) :
    (mark x l u).1 = true ∧ (left l (mark x l u).2).Perm (out.drop (i + 1)) := by
  obtain ⟨q, rfl⟩ := List.getElem?_eq_some_iff.1 hx
  rw [List.drop_eq_getElem_cons q] at h
  obtain ⟨h1, h2⟩ := mark_found _ l u (h.symm.subset List.mem_cons_self)
  refine ⟨h1, h2.trans ?_⟩
  have := h.erase out[i]
  rw [List.erase_cons_head] at this
  exact this
end
/-! ### the order of versions, equal ones by their bytes -/
theorem bytes_same : ∀ l m : List UInt8, Lib.compareBytes l m = Ver.bytes l m
  | [], [] => rfl
  | [], _ :: _ => rfl
  | _ :: _, [] => rfl
  | a :: l, b :: m => by
    have ih := bytes_same l m
    unfold Ver.bytes at *
    rw [Lib.compareBytes, Cmp.list]
    unfold Cmp.num
    have e1 : (a < b) ↔ ((a.toNat : Int) < (b.toNat : Int)) := by rw [UInt8.lt_iff_toNat_lt]; omega
    have e2 : (b < a) ↔ ((b.toNat : Int) < (a.toNat : Int)) := by rw [UInt8.lt_iff_toNat_lt]; omega
    by_cases h1 : a < b
    · rw [if_pos h1, if_pos (e1.1 h1), if_neg (by decide)]
    · rw [if_neg h1, if_neg (fun h => h1 (e1.2 h))]
      by_cases h2 : b < a
      · rw [if_pos h2, if_pos (e2.1 h2), if_neg (by decide)]
      · rw [if_neg h2, if_neg (fun h => h2 (e2.2 h)), if_pos rfl]
        exact ih
def ordV : List UInt8 → List UInt8 → Int := Cmp.lex Ver.cmp Ver.bytes
theorem good_ordV : Cmp.Good ordV := Ver.good_cmp.lex Ver.good_bytes
theorem ordV_le {l m : List UInt8} (h : ordV l m ≤ 0) : Ver.cmp l m ≤ 0 ∧ (Ver.cmp l m = 0 → Ver.bytes l m ≤ 0) := by
  unfold ordV Cmp.lex at h
  by_cases e : Ver.cmp l m = 0
  · rw [if_pos e] at h; exact ⟨by omega, fun _ => h⟩
  · rw [if_neg e] at h; exact ⟨h, fun h => absurd h e⟩

/-! ### the order of paths and versions -/
def front (v : List UInt8) : List UInt8 := v.takeWhile (· != 47)
def back (v : List UInt8) : List UInt8 := v.dropWhile (· != 47)
def ordM (x y : List UInt8 × List UInt8) : Int :=
  if x.1 = y.1 then (if front x.2 = front y.2 then Ver.bytes (back x.2) (back y.2) else Ver.cmp (front x.2) (front y.2)) else Ver.bytes x.1 y.1
theorem ordM_anti (x y : List UInt8 × List UInt8) : ordM x y = - ordM y x := by
  unfold ordM
  by_cases h1 : x.1 = y.1
  · rw [if_pos h1, if_pos h1.symm]
    by_cases h2 : front x.2 = front y.2
    · rw [if_pos h2, if_pos h2.symm]; exact Ver.good_bytes.anti _ _
    · rw [if_neg h2, if_neg (fun h => h2 h.symm)]; exact Ver.good_cmp.anti _ _
  · rw [if_neg h1, if_neg (fun h => h1 h.symm)]; exact Ver.good_bytes.anti _ _
theorem ordM_less (x y : List UInt8 × List UInt8) (h : lt ordM x y = true) : lt ordM y x = false := by
  have h1 := lt_true.1 h
  have h2 := ordM_anti x y
  exact lt_false.2 (by omega)
/-- what the law asks of two neighbours -/
theorem ordM_asked {w x : List UInt8 × List UInt8} (h : lt ordM x w = false) :
    (w.1 ≠ x.1 → Ver.bytes w.1 x.1 ≤ 0) ∧ (w.1 = x.1 → (front w.2 ≠ front x.2 → Ver.cmp (front w.2) (front x.2) ≤ 0) ∧ (front w.2 = front x.2 → Ver.bytes (back w.2) (back x.2) ≤ 0)) := by
  have h1 := lt_false.1 h
  have h2 := ordM_anti x w
  have h3 : ordM w x ≤ 0 := by omega
  unfold ordM at h3
  refine ⟨fun hn => by rw [if_neg hn] at h3; exact h3, fun he => ?_⟩
  rw [if_pos he] at h3
  exact ⟨fun hn => by rw [if_neg hn] at h3; exact h3, fun he => by rw [if_pos he] at h3; exact h3⟩
end Srt
end Go.Proofs.YtppnjkfeefmohaaDoor
