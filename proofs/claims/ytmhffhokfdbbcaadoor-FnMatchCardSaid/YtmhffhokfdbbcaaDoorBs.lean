/- Strings as lists of bytes, and worlds that differ by draws and new blocks alone: the words of this seat's walks. Plain Lean, no program in sight. -/
import Derived.RowKit3
import Derived.Below
import Derived.Deep.Draws
import Derived.Sort.Grow
import Derived.Lib.Strings
import Derived.Lib.IndexBytes
import Derived.Lib.SmallJoins
namespace Go.Proofs.YtmhffhokfdbbcaaDoor
open Go.RowKit
namespace Str

/-- the string that holds a list of bytes -/
def B (l : List UInt8) : ByteArray := ⟨l.toArray⟩

theorem B_data (l : List UInt8) : (B l).data.toList = l := by simp [B]
theorem B_list (l : List UInt8) : (B l).toList = l := by rw [Lib.toList_data, B_data]
theorem B_size (l : List UInt8) : (B l).size = l.length := by rw [Lib.size_eq, B_data]
theorem of_data {s t : ByteArray} (h : s.data.toList = t.data.toList) : s = t := by
  cases s; cases t; simp at h; rw [h]
theorem B_of (s : ByteArray) : B s.data.toList = s := of_data (B_data _)
theorem B_all (s : ByteArray) : ∃ l, s = B l := ⟨_, (B_of s).symm⟩
theorem B_inj {l m : List UInt8} (h : B l = B m) : l = m := by rw [← B_data l, h, B_data]
theorem B_cut (l : List UInt8) (a b : Nat) : (B l).extract a b = B ((l.drop a).take (b - a)) := of_data (by rw [Lib.extract_data, B_data, B_data])
theorem B_from (l : List UInt8) (a : Nat) : (B l).extract a (B l).size = B (l.drop a) := of_data (by rw [Lib.extract_to_end, B_data, B_data])
theorem B_from' (l : List UInt8) (a : Nat) : (B l).extract a l.length = B (l.drop a) := by rw [← B_from, B_size]
theorem B_front (l : List UInt8) (b : Nat) : (B l).extract 0 b = B (l.take b) := by rw [B_cut]; simp
theorem B_append (l m : List UInt8) : B l ++ B m = B (l ++ m) := of_data (by rw [Go.Joins.data_append]; simp only [B_data])
theorem B_get (l : List UInt8) (i : Nat) (h : i < (B l).size) : (B l)[i] = l[i]'(by rwa [B_size] at h) := by
  have e : (B l).data.toList[i]? = some ((B l)[i]) := Lib.data_getElem? _ _ h
  rw [B_data, List.getElem?_eq_getElem (by rwa [B_size] at h)] at e
  exact (Option.some.inj e).symm

end Str

/-- a scan from left to right has come to a place: all that is ahead holds. -/
def Scan (p : UInt8 → Bool) (l : List UInt8) (k : Nat) : Prop := k ≤ l.length ∧ l.takeWhile p = l.take k ++ (l.drop k).takeWhile p

theorem Scan.zero (p : UInt8 → Bool) (l : List UInt8) : Scan p l 0 := ⟨Nat.zero_le _, by simp⟩

theorem Scan.next {p : UInt8 → Bool} {l : List UInt8} {k : Nat} {c : UInt8} (h : Scan p l k) (hc : l[k]? = some c) (hp : p c = true) : Scan p l (k + 1) := by
  obtain ⟨hk, he⟩ := h
  obtain ⟨hlt, hc'⟩ := List.getElem?_eq_some_iff.1 hc
  refine ⟨hlt, ?_⟩
  rw [he, List.drop_eq_getElem_cons hlt, List.take_succ_eq_append_getElem hlt, hc']
  simp [hp]

theorem Scan.stop {p : UInt8 → Bool} {l : List UInt8} {k : Nat} (h : Scan p l k) (he : ∀ c, l[k]? = some c → p c = false) : l.takeWhile p = l.take k ∧ l.dropWhile p = l.drop k := by
  obtain ⟨hk, ht⟩ := h
  have e : (l.drop k).takeWhile p = [] := by
    by_cases hlt : k < l.length
    · rw [List.drop_eq_getElem_cons hlt]
      have := he _ (List.getElem?_eq_getElem hlt)
      simp only [List.takeWhile_cons, this, Bool.false_eq_true, if_false]
    · rw [List.drop_eq_nil_of_le (by omega)]; rfl
  rw [e, List.append_nil] at ht
  refine ⟨ht, ?_⟩
  have h1 := List.takeWhile_append_dropWhile (p := p) (l := l)
  have h2 := List.take_append_drop k l
  rw [ht] at h1
  exact List.append_cancel_left (h1.trans h2.symm)

/-- what a byte at a place is -/
theorem byte_at (s : ByteArray) (i : Nat) (h : i < s.size) : s.data.toList[i]? = some s[i] := Lib.data_getElem? s i h
theorem byte_at' (s : ByteArray) (i : Nat) (h : i < s.size) {c : UInt8} (hc : s[i] = c) : s.data.toList[i]? = some c := by rw [byte_at s i h, hc]
theorem byte_none (s : ByteArray) (i : Nat) (h : ¬ i < s.size) : s.data.toList[i]? = none := List.getElem?_eq_none (by rw [← Lib.size_eq]; omega)

theorem toList_ne {s : ByteArray} (h : 0 < s.size) : (s.toList == ([] : List UInt8)) = false := by
  rw [Lib.toList_data, beq_eq_false_iff_ne]
  intro e
  have : s.size = 0 := by rw [Lib.size_eq, e]; rfl
  omega

/-- a byte that is no given one, as a number -/
theorem ne_nat {c d : UInt8} (h : c ≠ d) : ((c.toNat : Int) == (d.toNat : Int)) = false := by
  rw [beq_eq_false_iff_ne]
  intro e
  exact h (UInt8.toNat_inj.1 (by omega))

theorem size_zero {s : ByteArray} (h : s.size = 0) : s = Str.B [] :=
  Str.of_data (by rw [Str.B_data]; exact List.eq_nil_of_length_eq_zero (by rw [← Lib.size_eq]; exact h))

theorem toList_nil : ((Str.B []).toList == ([] : List UInt8)) = true := by rw [Str.B_list]; rfl

theorem ret_bool {a b : Bool} (h : a = b) : Ending.returned (.bool a) = Ending.returned (.bool b) := by rw [h]
theorem ret_int {k : IntKind} {a b : Int} (h : a = b) : Ending.returned (.int k a) = Ending.returned (.int k b) := by rw [h]
theorem ret_str {a b : ByteArray} (h : a = b) : Ending.returned (.string a) = Ending.returned (.string b) := by rw [h]

/-- a world in which some orders have been drawn -/
def Drew (w w' : World) : Prop := ∃ n, w' = w.drewN n
theorem Drew.refl (w : World) : Drew w w := ⟨0, rfl⟩
theorem Drew.drewN {w w' : World} (h : Drew w w') (n : Nat) : Drew w (w'.drewN n) := by
  obtain ⟨m, rfl⟩ := h; exact ⟨m + n, by simp [World.drewN, Nat.add_assoc]⟩
theorem Drew.drew {w w' : World} (h : Drew w w') : Drew w w'.drew := h.drewN 1
theorem Drew.trans {a b c : World} (h : Drew a b) (k : Drew b c) : Drew a c := by
  obtain ⟨n, rfl⟩ := k; exact h.drewN n

/-- a world in which, besides, blocks have been laid; nothing that was there has turned -/
def Gr (w w' : World) : Prop := ∃ n os, w' = Sort.grow (w.drewN n) os
theorem Gr.refl (w : World) : Gr w w := ⟨0, #[], by rw [Sort.grow_empty]; rfl⟩
theorem Gr.drewN {w w' : World} (h : Gr w w') (n : Nat) : Gr w (w'.drewN n) := by
  obtain ⟨m, os, rfl⟩ := h
  exact ⟨m + n, os, by simp [World.drewN, Sort.grow, Nat.add_assoc]⟩
theorem Gr.drew {w w' : World} (h : Gr w w') : Gr w w'.drew := h.drewN 1
theorem Gr.alloc {w w' : World} (h : Gr w w') (o : Obj) : Gr w (w'.alloc o) := by
  obtain ⟨m, os, rfl⟩ := h
  exact ⟨m, os.push o, by simp [World.alloc, Sort.grow]⟩
theorem Gr.trans {a b c : World} (h : Gr a b) (k : Gr b c) : Gr a c := by
  obtain ⟨n, os, rfl⟩ := h
  obtain ⟨m, os', rfl⟩ := k
  exact ⟨n + m, os ++ os', by simp [World.drewN, Sort.grow, Nat.add_assoc]⟩
theorem Gr.of_drew {w w' : World} (h : Drew w w') : Gr w w' := by obtain ⟨n, rfl⟩ := h; exact (Gr.refl w).drewN n
theorem Gr.then_drew {a b c : World} (h : Gr a b) (k : Drew b c) : Gr a c := h.trans (.of_drew k)
theorem Gr.below {w w' : World} (h : Gr w w') : Below w.heap.size w w' := by
  obtain ⟨n, os, rfl⟩ := h
  refine ⟨rfl, rfl, rfl, by simp [World.drewN, Sort.grow], fun k hk => ?_⟩
  show (w.heap ++ os)[k]? = w.heap[k]?
  rw [Array.getElem?_append_left hk]

theorem Gr.drawn {w w' : World} (h : Gr w w') : w.drawn ≤ w'.drawn := by
  obtain ⟨n, os, rfl⟩ := h
  exact Nat.le_add_right _ _
theorem Gr.of_parts {w w' : World} (hb : Below w.heap.size w w') (hd : w.drawn ≤ w'.drawn) : Gr w w' := by
  refine ⟨w'.drawn - w.drawn, w'.heap.extract w.heap.size w'.heap.size, ?_⟩
  obtain ⟨h1, h2, h3, h4, h5⟩ := hb
  cases w' with
  | mk heap tape drawn os output =>
    simp only at h1 h2 h3 h4 h5 hd
    subst h1; subst h2; subst h3
    simp only [Sort.grow, World.drewN, World.mk.injEq, and_true, true_and]
    refine ⟨?_, by omega⟩
    apply Array.ext_getElem?
    intro i
    by_cases hi : i < w.heap.size
    · rw [Array.getElem?_append_left hi, h5 i hi]
    · rw [Array.getElem?_append_right (by omega), Array.getElem?_extract]
      by_cases hj : i < heap.size
      · rw [if_pos (by omega)]; congr 1; omega
      · rw [if_neg (by omega), Array.getElem?_eq_none (by omega)]
theorem Gr.setCell {w w' : World} (h : Gr w w') {p : Addr} (hp : w.heap.size ≤ p.block) (v : Value) : Gr w (w'.setCell p v) :=
  .of_parts (h.below.setCell hp v) h.drawn
theorem Gr.grown {w w' w'' : World} {row : Option Nat} (h : Gr w w') (hg : w'.grownBy w'' row) (hd : w'.drawn ≤ w''.drawn) (hr : ∀ k, row = some k → w.heap.size ≤ k) : Gr w w'' :=
  .of_parts (h.below.grown hg h.below.size hr) (Nat.le_trans h.drawn hd)

end Go.Proofs.YtmhffhokfdbbcaaDoor
