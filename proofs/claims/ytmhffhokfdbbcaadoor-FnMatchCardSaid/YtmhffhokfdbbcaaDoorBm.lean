/- Worlds in which all that was there stands as it stood (the orders that were drawn are not told); a list of texts in memory. Plain Lean, no program in sight. -/
import Derived.Test.YtmhffhokfdbbcaaDoorIter
import Derived.Test.YtmhffhokfdbbcaaDoorSvB
import Derived.WalkKit
import Derived.OwnWalk
namespace Go.Proofs.YtmhffhokfdbbcaaDoor
open Go.RowKit Str
set_option linter.unusedVariables false

def Bl (w w' : World) : Prop := Below w.heap.size w w'
theorem Bl.refl (w : World) : Bl w w := Below.refl _ _
theorem Bl.size {w w' : World} (h : Bl w w') : w.heap.size ≤ w'.heap.size := by obtain ⟨_, _, _, q, _⟩ := h; exact q
theorem Bl.trans {a b c : World} (h : Bl a b) (k : Bl b c) : Bl a c := by
  have hs := h.size
  obtain ⟨h1, h2, h3, h4, h5⟩ := h
  obtain ⟨k1, k2, k3, k4, k5⟩ := k
  exact ⟨k1.trans h1, k2.trans h2, k3.trans h3, Nat.le_trans h4 k4, fun x hx => (k5 x (Nat.lt_of_lt_of_le hx hs)).trans (h5 x hx)⟩
theorem Bl.of_gr {w w' : World} (h : Gr w w') : Bl w w' := h.below
theorem Bl.of_drew {w w' : World} (h : Drew w w') : Bl w w' := (Gr.of_drew h).below
theorem Bl.alloc {w w' : World} (h : Bl w w') (o : Obj) : Bl w (w'.alloc o) := h.trans (.of_gr ((Gr.refl _).alloc o))
theorem Bl.drewN {w w' : World} (h : Bl w w') (n : Nat) : Bl w (w'.drewN n) := h.trans (.of_gr ((Gr.refl _).drewN n))
theorem Bl.drew {w w' : World} (h : Bl w w') : Bl w w'.drew := h.drewN 1
theorem Bl.gr {a b c : World} (h : Bl a b) (k : Gr b c) : Bl a c := h.trans (.of_gr k)
theorem Bl.dr {a b c : World} (h : Bl a b) (k : Drew b c) : Bl a c := h.trans (.of_drew k)
theorem Bl.block {w w' : World} (h : Bl w w') {k : Nat} (hk : k < w.heap.size) : w'.heap[k]? = w.heap[k]? := by obtain ⟨_, _, _, _, q⟩ := h; exact q k hk
theorem Bl.cell {w w' : World} (h : Bl w w') {b o : Nat} (hb : b < w.heap.size) : w'.cell? ⟨b, o, none⟩ = w.cell? ⟨b, o, none⟩ := Below.cell (p := ⟨b, o, none⟩) h hb
theorem Bl.frozen {w w' : World} (h : Bl w w') {b o : Nat} (hb : b < w.heap.size) : w'.frozen? ⟨b, o, none⟩ = w.frozen? ⟨b, o, none⟩ := Below.frozen (p := ⟨b, o, none⟩) h hb
theorem Bl.setIter {w W : World} {b : Nat} {s : ByteArray} {pos : Nat} (h : Bl w W) (hb : w.heap.size ≤ b) : Bl w (setIter W b s pos) := by
  obtain ⟨q1, q2, q3, q4, q5⟩ := h
  refine ⟨q1, q2, q3, ?_, fun k hk => ?_⟩
  · show w.heap.size ≤ (W.heap.setIfInBounds b _).size
    simpa using q4
  · show (W.heap.setIfInBounds b _)[k]? = _
    rw [Array.getElem?_setIfInBounds_ne (by omega)]
    exact q5 k hk
theorem Bl.iter {w W : World} (h : Bl w W) (s : ByteArray) : Bl w (W.iter s 0) := h.alloc _
theorem Bl.setCell {w w' : World} (h : Bl w w') {p : Addr} (hp : w.heap.size ≤ p.block) (v : Value) : Bl w (w'.setCell p v) := Below.setCell h hp v
theorem Bl.grown {w w' w'' : World} {row : Option Nat} (h : Bl w w') (hg : w'.grownBy w'' row) (hr : ∀ k, row = some k → w.heap.size ≤ k) : Bl w w'' := Below.grown h hg h.size hr
theorem Bl.keepIter {W W' : World} {b : Nat} {s : ByteArray} {pos : Nat} (h : IterAt W b s pos) (g : Bl W W') : IterAt W' b s pos := by
  have hl := h.lt
  unfold IterAt at *
  rw [g.block hl, h]

/-- a list of texts lies in memory -/
def Strs (W : World) (v : Value) (L : List (List UInt8)) : Prop := ∃ g cap, v = .slice (some ⟨g, 0, none⟩) L.length cap ∧ g < W.heap.size ∧ L.length ≤ cap ∧ ∀ i l, L[i]? = some l → W.cell? ⟨g, i, none⟩ = some (.string (B l))
theorem Strs.keep {W W' : World} {v : Value} {L : List (List UInt8)} (h : Strs W v L) (g : Bl W W') : Strs W' v L := by
  obtain ⟨b, cap, h1, h2, h3, h4⟩ := h
  exact ⟨b, cap, h1, Nat.lt_of_lt_of_le h2 g.size, h3, fun i l hi => (g.cell h2).trans (h4 i l hi)⟩
theorem Strs.of_owns {W : World} {base : Nat} {e : TypeId} {v : Value} {L : List (List UInt8)} (h : W.ownsRow base e 1 v L.length (L.map fun l => .string (B l))) (hL : L ≠ []) : Strs W v L := by
  have hc := fun g hg => World.ownsRow.cells h (g := g) hg
  obtain ⟨_, h2⟩ := h
  rcases h2 with ⟨_, h0⟩ | ⟨g, cap, cur, rfl, hb, hg, hn, _, _, _⟩
  · exact absurd (List.eq_nil_of_length_eq_zero h0) hL
  · refine ⟨g, cap, rfl, ?_, hn, fun i l hi => ?_⟩
    · by_cases hlt : g < W.heap.size
      · exact hlt
      · rw [Array.getElem?_eq_none (by omega)] at hg; cases hg
    · have := hc g rfl i (.string (B l)) (by rw [List.getElem?_map, hi]; rfl)
      have hp : (⟨g, 0, none⟩ : Addr).add i = ⟨g, i, none⟩ := by unfold Addr.add; split <;> simp_all
      rw [hp] at this; exact this
theorem owns_drew {w w' : World} {base : Nat} {e : TypeId} {sz : Nat} {v : Value} {n : Nat} {xs : List Value} (h : w.ownsRow base e sz v n xs) (d : Drew w w') : w'.ownsRow base e sz v n xs := by
  obtain ⟨k, rfl⟩ := d; exact h
theorem owns_bl {w w' : World} {base : Nat} {e : TypeId} {sz : Nat} {v : Value} {n : Nat} {xs : List Value} (h : w.ownsRow base e sz v n xs) (g : Bl w w') : w'.ownsRow base e sz v n xs := by
  have hl := h.lt
  obtain ⟨h1, h2⟩ := h
  refine ⟨h1, ?_⟩
  rcases h2 with h2 | ⟨b, cap, cur, h3, h4, h5, h6⟩
  · exact .inl h2
  · refine .inr ⟨b, cap, cur, h3, h4, ?_, h6⟩
    have hb := hl b (by rw [h3]; rfl)
    rw [g.block hb.2]; exact h5

theorem cell_one (w : World) (x : Value) (t : TypeId) : ∀ j u, [x][j]? = some u → (w.alloc (.cells #[x] t)).cell? ((⟨w.heap.size, 0, none⟩ : Addr).add j) = some u := by
  intro j u hj
  match j, hj with
  | 0, hj => simp at hj; subst hj; simp [Addr.add]

theorem info_str : (Tryd.prog.info? 9).map (fun i => (i.zero, i.size, i.bytes)) = some (some (.string ⟨#[]⟩), 1, 16) := by kernel_rfl
theorem info_u8 : (Tryd.prog.info? 5).map (fun i => (i.zero, i.size, i.bytes)) = some (some (.int .u8 0), 1, 1) := by kernel_rfl
end Go.Proofs.YtmhffhokfdbbcaaDoor
