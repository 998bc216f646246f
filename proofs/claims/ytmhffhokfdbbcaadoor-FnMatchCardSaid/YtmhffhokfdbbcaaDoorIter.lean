/- A range over a text: its iterator in a world; and the words of the places in a text. Plain Lean, no program in sight. -/
import Derived.Test.YtmhffhokfdbbcaaDoorBs
import Derived.Laws.RangeAny
import Derived.Lib.Hide
namespace Go.Proofs.YtmhffhokfdbbcaaDoor
open Go.RowKit Str
set_option linter.unusedVariables false

/-- an iterator's block, put at another place -/
def setIter (W : World) (b : Nat) (s : ByteArray) (pos : Nat) : World := { W with heap := W.heap.setIfInBounds b (.stringIter s pos) }

/-- the iterator of a text stands at a place -/
def IterAt (W : World) (b : Nat) (s : ByteArray) (pos : Nat) : Prop := W.heap[b]? = some (.stringIter s pos)

theorem IterAt.lt {W : World} {b : Nat} {s : ByteArray} {pos : Nat} (h : IterAt W b s pos) : b < W.heap.size := by
  unfold IterAt at h
  by_cases hb : b < W.heap.size
  · exact hb
  · rw [Array.getElem?_eq_none (by omega)] at h; cases h
theorem IterAt.start (W : World) (s : ByteArray) : IterAt (W.iter s 0) W.heap.size s 0 := World.iter_heap W s 0
theorem IterAt.set {W : World} {b : Nat} {s : ByteArray} {pos pos' : Nat} (h : IterAt W b s pos) : IterAt (setIter W b s pos') b s pos' := by
  have := h.lt
  unfold IterAt setIter
  simp [this]
theorem IterAt.keep {W W' : World} {b : Nat} {s : ByteArray} {pos : Nat} (h : IterAt W b s pos) (g : Gr W W') : IterAt W' b s pos := by
  have hb := h.lt
  obtain ⟨_, _, _, _, q⟩ := g.below
  unfold IterAt at *
  rw [q b hb, h]
theorem Gr.setIter {w W : World} {b : Nat} {s : ByteArray} {pos : Nat} (h : Gr w W) (hb : w.heap.size ≤ b) : Gr w (setIter W b s pos) := by
  obtain ⟨q1, q2, q3, q4, q5⟩ := h.below
  refine Gr.of_parts ⟨q1, q2, q3, ?_, fun k hk => ?_⟩ h.drawn
  · show w.heap.size ≤ (W.heap.setIfInBounds b _).size
    simpa using q4
  · show (W.heap.setIfInBounds b _)[k]? = _
    rw [Array.getElem?_setIfInBounds_ne (by omega)]
    exact q5 k hk
theorem setIter_size (W : World) (b : Nat) (s : ByteArray) (pos : Nat) : (setIter W b s pos).heap.size = W.heap.size := by unfold setIter; simp
theorem Gr.iter {w W : World} (h : Gr w W) (s : ByteArray) : Gr w (W.iter s 0) := h.alloc _
theorem Gr.size {w W : World} (h : Gr w W) : w.heap.size ≤ W.heap.size := by obtain ⟨_, _, _, q, _⟩ := h.below; exact q

section
variable {P : Program}
theorem next_any {W : World} {b : Nat} {s : ByteArray} {pos : Nat} (hi : IterAt W b s pos) (h : pos < s.size) (ty : TypeId) :
    (Instr.next (.pointer (some ⟨b, 0, none⟩)) true ty).run P W =
      .ok (.tuple #[.bool true, .int .i64 pos, .int .i32 (Utf8.decode s pos).1]) (setIter W b s (pos + (Utf8.decode s pos).2)) := by
  unfold IterAt at hi
  simp only [Instr.next, getObj, setObj, Sem.run_bind, Sem.run, hi, Result.andThen, h, if_true, setIter]
  simp [goInt]
theorem next_ascii {W : World} {b : Nat} {s : ByteArray} {pos : Nat} (hi : IterAt W b s pos) (h : pos < s.size) (ha : (s[pos]'h).toNat < 128) (ty : TypeId) :
    (Instr.next (.pointer (some ⟨b, 0, none⟩)) true ty).run P W = .ok (.tuple #[.bool true, .int .i64 pos, .int .i32 (s[pos]'h).toNat]) (setIter W b s (pos + 1)) := by
  rw [next_any hi h ty, decode_ascii s pos h ha]
theorem next_end {W : World} {b : Nat} {s : ByteArray} {pos : Nat} (hi : IterAt W b s pos) (h : ¬ pos < s.size) (ty : TypeId) :
    (Instr.next (.pointer (some ⟨b, 0, none⟩)) true ty).run P W = .ok (.tuple #[.bool false]) W := by
  unfold IterAt at hi
  simp [Instr.next, getObj, Sem.run, hi, h]
end

/-- a text of bytes below 128 -/
def Asc (l : List UInt8) : Prop := ∀ c ∈ l, c.toNat < 128
theorem Asc.at {s : ByteArray} (h : Asc s.data.toList) (k : Nat) (hk : k < s.size) {c : UInt8} (hc : s[k] = c) : c.toNat < 128 :=
  h c (List.mem_of_getElem? (byte_at' s k hk hc))
theorem Asc.take {l : List UInt8} (h : Asc l) (n : Nat) : Asc (l.take n) := fun c hc => h c (List.mem_of_mem_take hc)
theorem Asc.drop {l : List UInt8} (h : Asc l) (n : Nat) : Asc (l.drop n) := fun c hc => h c (List.mem_of_mem_drop hc)
theorem Asc.cut {s : ByteArray} (h : Asc s.data.toList) (a b : Nat) : Asc (s.extract a b).data.toList := by
  rw [Lib.extract_data]; exact (h.drop a).take _

/-- the first place of a text in another one -/
def idx (p : List UInt8) : List UInt8 → Option Nat
  | [] => none
  | c :: t => if p.isPrefixOf (c :: t) then some 0 else (idx p t).map (· + 1)
def idxV (p l : List UInt8) : Int := match idx p l with | some j => (j : Int) | none => -1

theorem idx_short {p l : List UInt8} (h : l.length < p.length) : idx p l = none := by
  induction l with
  | nil => rfl
  | cons c t ih =>
    unfold idx
    rw [if_neg, ih (by simp at h; omega)]; rfl
    intro e
    have := (List.isPrefixOf_iff_prefix.1 e).length_le
    omega
theorem idx_hit {p l : List UInt8} (hp : p ≠ []) (h : p.isPrefixOf l = true) : idx p l = some 0 := by
  cases l with
  | nil => cases p with
    | nil => exact absurd rfl hp
    | cons => simp at h
  | cons c t => unfold idx; rw [if_pos h]
theorem idx_miss {p l : List UInt8} {c : UInt8} {k : Nat} (hc : l[k]? = some c) (h : p.isPrefixOf (l.drop k) = false) : idx p (l.drop k) = (idx p (l.drop (k + 1))).map (· + 1) := by
  obtain ⟨hlt, hc'⟩ := List.getElem?_eq_some_iff.1 hc
  rw [List.drop_eq_getElem_cons hlt] at h ⊢
  rw [idx, if_neg (by rw [h]; simp)]

theorem idx_one (c : UInt8) (l : List UInt8) : idx [c] l = if c ∈ l then some (l.takeWhile (· != c)).length else none := by
  induction l with
  | nil => rfl
  | cons d t ih =>
    unfold idx
    by_cases h : d = c
    · subst h; simp [List.isPrefixOf]
    · rw [if_neg (by simp [List.isPrefixOf]; exact fun e => h e.symm), ih]
      by_cases hm : c ∈ t
      · rw [if_pos hm, if_pos (List.mem_cons_of_mem _ hm)]; simp [h]
      · rw [if_neg hm, if_neg (by simp [hm]; exact fun e => h e.symm)]; rfl

theorem prefix_take {p l : List UInt8} : p.isPrefixOf l = decide (l.take p.length = p) := by
  rw [Bool.eq_iff_iff, decide_eq_true_eq, List.isPrefixOf_iff_prefix, List.prefix_iff_eq_take]
  exact ⟨fun h => h.symm, fun h => h.symm⟩

/-- the last place of a byte in a text, below a bound -/
def lastTo (c : UInt8) (l : List UInt8) : Nat → Int
  | 0 => -1
  | k + 1 => if l[k]? = some c then (k : Int) else lastTo c l k

end Go.Proofs.YtmhffhokfdbbcaaDoor
