/- Identifiers with points between them, read from left to right: what a reader that keeps the place where the present identifier began knows of all that is still to come. Plain Lean, no program in sight. -/
import Derived.Test.YtmhffhokfdbbcaaDoorVer
import Derived.Test.YtmhffhokfdbbcaaDoorBs
namespace Go.Proofs.YtmhffhokfdbbcaaDoor
namespace Ver

theorem split_dot : ∀ (cur rest : List UInt8), (∀ x ∈ cur, x ≠ 46) → split 46 (cur ++ 46 :: rest) = cur :: split 46 rest
  | [], rest, _ => by simp [split]
  | c :: cur, rest, h => by
    simp only [List.cons_append, split]
    rw [if_neg (h c (by simp)), split_dot cur rest (fun x hx => h x (by simp [hx]))]

theorem split_none : ∀ (cur : List UInt8), (∀ x ∈ cur, x ≠ 46) → split 46 cur = [cur]
  | [], _ => by simp [split]
  | c :: cur, h => by
    simp only [split]
    rw [if_neg (h c (by simp)), split_none cur (fun x hx => h x (by simp [hx]))]

theorem idc_ne_dot {x : UInt8} (h : idc x = true) : x ≠ 46 := by
  rintro rfl
  simp [idc] at h

theorem split_head (c : UInt8) (hc : c ≠ 46) : ∀ (cur rest : List UInt8), (∀ x ∈ cur, x ≠ 46) → ∃ t r, split 46 (cur ++ c :: rest) = (cur ++ c :: t) :: r
  | [], rest, _ => by
    simp only [List.nil_append, split]
    rw [if_neg hc]
    cases hs : split 46 rest with
    | nil => exact ⟨[], [], rfl⟩
    | cons a r => exact ⟨a, r, rfl⟩
  | d :: cur, rest, h => by
    obtain ⟨t, r, e⟩ := split_head c hc cur rest (fun x hx => h x (by simp [hx]))
    refine ⟨t, r, ?_⟩
    simp only [List.cons_append, split]
    rw [if_neg (h d (by simp)), e]

/-- what a reader knows at place i, if the present identifier began at place b. -/
structure Ser (strict : Bool) (q : UInt8 → Bool) (l : List UInt8) (i b : Nat) : Prop where
  hb : 1 ≤ b
  hbi : b ≤ i
  scan : Scan q (l.drop 1) (i - 1)
  cur : ∀ x ∈ (l.drop b).take (i - b), idc x = true
  eq : series strict ((l.drop 1).takeWhile q) = series strict ((l.drop b).take (i - b) ++ (l.drop i).takeWhile q)

theorem Ser.start (strict : Bool) (q : UInt8 → Bool) (l : List UInt8) : Ser strict q l 1 1 := ⟨by omega, by omega, Scan.zero _ _, by simp, by simp⟩

theorem Ser.le {strict : Bool} {q : UInt8 → Bool} {l : List UInt8} {i b : Nat} (h : Ser strict q l i b) (hl : 1 ≤ l.length) : i ≤ l.length := by
  have := h.scan.1
  have h1 := h.hb; have h2 := h.hbi
  rw [List.length_drop] at this; omega

theorem Ser.cur_dot {strict : Bool} {q : UInt8 → Bool} {l : List UInt8} {i b : Nat} (h : Ser strict q l i b) : ∀ x ∈ (l.drop b).take (i - b), x ≠ 46 := fun x hx => idc_ne_dot (h.cur x hx)

theorem drop_at {l : List UInt8} {i : Nat} {c : UInt8} (hc : l[i]? = some c) : l.drop i = c :: l.drop (i + 1) := by
  obtain ⟨hlt, e⟩ := List.getElem?_eq_some_iff.1 hc
  rw [List.drop_eq_getElem_cons hlt, e]

theorem Ser.scan_next {strict : Bool} {q : UInt8 → Bool} {l : List UInt8} {i b : Nat} {c : UInt8} (h : Ser strict q l i b) (hc : l[i]? = some c) (hq : q c = true) : Scan q (l.drop 1) (i + 1 - 1) := by
  have h1 := h.hb; have h2 := h.hbi
  have := h.scan.next (c := c) (by rw [List.getElem?_drop]; rw [show 1 + (i - 1) = i from by omega]; exact hc) hq
  rw [show i - 1 + 1 = i + 1 - 1 from by omega] at this
  exact this

theorem Ser.id {strict : Bool} {q : UInt8 → Bool} {l : List UInt8} {i b : Nat} {c : UInt8} (h : Ser strict q l i b) (hc : l[i]? = some c) (hq : q c = true) (hi : idc c = true) : Ser strict q l (i + 1) b := by
  have h1 := h.hb; have h2 := h.hbi
  have ht : (l.drop b).take (i + 1 - b) = (l.drop b).take (i - b) ++ [c] := by
    obtain ⟨hlt, e⟩ := List.getElem?_eq_some_iff.1 hc
    rw [show i + 1 - b = (i - b) + 1 from by omega, List.take_succ_eq_append_getElem (by rw [List.length_drop]; omega), List.getElem_drop]
    congr 2
    rw [← e]; congr 1; omega
  refine ⟨h1, by omega, h.scan_next hc hq, fun x hx => ?_, ?_⟩
  · rw [ht] at hx
    rcases List.mem_append.1 hx with hx | hx
    · exact h.cur x hx
    · simp only [List.mem_singleton] at hx; subst hx; exact hi
  · rw [h.eq, ht, drop_at hc]
    simp [hq]

theorem Ser.dot {strict : Bool} {q : UInt8 → Bool} {l : List UInt8} {i b : Nat} (h : Ser strict q l i b) (hc : l[i]? = some 46) (hq : q 46 = true)
    (hok : okId strict ((l.drop b).take (i - b)) = true) : Ser strict q l (i + 1) (i + 1) := by
  have h1 := h.hb; have h2 := h.hbi
  refine ⟨by omega, by omega, h.scan_next hc hq, by simp, ?_⟩
  rw [h.eq, drop_at hc]
  simp only [List.takeWhile_cons, hq, if_true, Nat.sub_self, List.take_zero, List.nil_append]
  unfold series
  rw [split_dot _ _ h.cur_dot, List.all_cons, hok, Bool.true_and]

theorem Ser.dot_bad {strict : Bool} {q : UInt8 → Bool} {l : List UInt8} {i b : Nat} (h : Ser strict q l i b) (hc : l[i]? = some 46) (hq : q 46 = true)
    (hok : okId strict ((l.drop b).take (i - b)) = false) : series strict ((l.drop 1).takeWhile q) = false := by
  rw [h.eq, drop_at hc]
  simp only [List.takeWhile_cons, hq, if_true]
  unfold series
  rw [split_dot _ _ h.cur_dot, List.all_cons, hok, Bool.false_and]

theorem Ser.bad {strict : Bool} {q : UInt8 → Bool} {l : List UInt8} {i b : Nat} {c : UInt8} (h : Ser strict q l i b) (hc : l[i]? = some c) (hq : q c = true) (hi : idc c = false) (hd : c ≠ 46) :
    series strict ((l.drop 1).takeWhile q) = false := by
  rw [h.eq, drop_at hc]
  simp only [List.takeWhile_cons, hq, if_true]
  unfold series
  obtain ⟨t, r, e⟩ := split_head c hd ((l.drop b).take (i - b)) ((l.drop (i + 1)).takeWhile q) h.cur_dot
  rw [e, List.all_cons]
  have : okId strict ((l.drop b).take (i - b) ++ c :: t) = false := by
    unfold okId
    rw [List.all_append, List.all_cons, hi]
    simp
  rw [this, Bool.false_and]

theorem Ser.done {strict : Bool} {q : UInt8 → Bool} {l : List UInt8} {i b : Nat} (h : Ser strict q l i b) (he : ∀ c, l[i]? = some c → q c = false) :
    series strict ((l.drop 1).takeWhile q) = okId strict ((l.drop b).take (i - b)) ∧ (l.drop 1).takeWhile q = (l.drop 1).take (i - 1) ∧ (l.drop 1).dropWhile q = l.drop i := by
  have h1 := h.hb; have h2 := h.hbi
  obtain ⟨e1, e2⟩ := h.scan.stop (fun c hc => he c (by rw [List.getElem?_drop] at hc; rwa [show 1 + (i - 1) = i from by omega] at hc))
  have e3 : (l.drop i).takeWhile q = [] := by
    cases hd : l.drop i with
    | nil => rfl
    | cons c r =>
      have hc : l[i]? = some c := by
        have := congrArg (fun m => m[0]?) hd
        simpa using this
      simp [he c hc]
  refine ⟨?_, e1, ?_⟩
  · rw [h.eq, e3, List.append_nil]
    unfold series
    rw [split_none _ h.cur_dot]
    simp
  · rw [e2, List.drop_drop]; congr 1; omega

/-- a part that is no number with noughts ahead -/
def badNum (a : List UInt8) : Bool := a.all dig && decide (1 < a.length) && a.head? == some 48

theorem okId_strict {a : List UInt8} (h : ∀ x ∈ a, idc x = true) : okId true a = (!a.isEmpty && !badNum a) := by
  have : a.all idc = true := List.all_eq_true.2 h
  unfold okId badNum
  rw [this]; simp

theorem okId_loose {a : List UInt8} (h : ∀ x ∈ a, idc x = true) : okId false a = !a.isEmpty := by
  have : a.all idc = true := List.all_eq_true.2 h
  unfold okId
  rw [this]; simp

end Ver
end Go.Proofs.YtmhffhokfdbbcaaDoor
