/- What lies in memory while a sorted list is looked through: texts in a row, and marks. -/
import Derived.Test.YtppnjkfeefmohaaDoorSrt
import Derived.Test.YtppnjkfeefmohaaDoorBl
import Derived.Deep.OwnRows
namespace Go.Proofs.YtppnjkfeefmohaaDoor
open Go.RowKit Str
set_option linter.unusedVariables false

/-- texts in a row -/
def Lie (W : World) (g off : Nat) (L : List (List UInt8)) : Prop := (L ≠ [] → g < W.heap.size) ∧ ∀ j X, L[j]? = some X → W.cell? ⟨g, off + j, none⟩ = some (.string (B X))
theorem Lie.keep {W W' : World} {g off : Nat} {L : List (List UInt8)} (h : Lie W g off L) (k : Bl W W') : Lie W' g off L := by
  refine ⟨fun hn => Nat.lt_of_lt_of_le (h.1 hn) k.size, fun j X hj => ?_⟩
  have hn : L ≠ [] := by rintro rfl; simp at hj
  exact (k.cell (h.1 hn)).trans (h.2 j X hj)

/-- marks in a row -/
def Bits (W : World) (g : Nat) (u : List Bool) : Prop := ∀ j b, u[j]? = some b → W.cell? ⟨g, j, none⟩ = some (.bool b) ∧ W.frozen? ⟨g, j, none⟩ = false
theorem Bits.keep {W W' : World} {g : Nat} {u : List Bool} (h : Bits W g u) (hg : g < W.heap.size) (k : Bl W W') : Bits W' g u :=
  fun j b hj => ⟨(k.cell hg).trans (h j b hj).1, (k.frozen hg).trans (h j b hj).2⟩
theorem Bits.set {W : World} {g : Nat} {u : List Bool} (h : Bits W g u) {j : Nat} (b : Bool) (hj : j < u.length) : Bits (W.setCell ⟨g, j, none⟩ (.bool b)) g (u.set j b) := by
  intro i c hi
  rw [World.frozen?_setCell]
  by_cases e : i = j
  · subst e
    rw [List.getElem?_set_self hj] at hi
    cases hi
    have := h i _ (List.getElem?_eq_getElem hj)
    exact ⟨World.cell?_setCell_same _ _ _ this.1, this.2⟩
  · rw [List.getElem?_set_ne (Ne.symm e)] at hi
    rw [World.cell?_setCell_other _ _ _ _ (fun h => e (congrArg Addr.off h).symm)]
    exact h i c hi
theorem Bits.made (w : World) (n : Nat) (t : TypeId) : Bits (w.alloc (.cells (madeCells #[.bool false] n) t)) w.heap.size (List.replicate n false) := by
  intro j b hj
  obtain ⟨h1, h2⟩ := List.getElem?_eq_some_iff.1 hj
  have hn : j < n := by simpa using h1
  have hb : b = false := by rw [← h2]; simp
  subst hb
  constructor
  · unfold World.cell? World.alloc
    simp [madeCells, hn, Nat.mod_one]
  · unfold World.frozen? World.alloc
    simp

/-- of two texts the one that is not greater, in the model's own words -/
theorem less_or_eq : ∀ l m : List UInt8, Ver.bytes l m ≤ 0 → (Op.bytesLess l m || l == m) = true
  | [], [], _ => rfl
  | [], _ :: _, _ => by simp [Op.bytesLess]
  | _ :: _, [], h => by unfold Ver.bytes at h; rw [Cmp.list] at h; omega
  | a :: l, b :: m, h => by
    unfold Ver.bytes at h
    rw [Cmp.list] at h
    unfold Cmp.num at h
    rw [Op.bytesLess]
    have e1 : (a < b) ↔ ((a.toNat : Int) < (b.toNat : Int)) := by rw [UInt8.lt_iff_toNat_lt]; omega
    have e2 : (b < a) ↔ ((b.toNat : Int) < (a.toNat : Int)) := by rw [UInt8.lt_iff_toNat_lt]; omega
    by_cases h1 : a < b
    · rw [show decide (a < b) = true from decide_eq_true h1]; simp
    · by_cases h2 : b < a
      · rw [if_neg (fun h => h1 (e1.2 h)), if_pos (e2.1 h2), if_neg (by decide)] at h
        omega
      · have n1 : ¬ ((a.toNat : Int) < (b.toNat : Int)) := fun h => h1 (e1.2 h)
        have n2 : ¬ ((b.toNat : Int) < (a.toNat : Int)) := fun h => h2 (e2.2 h)
        have hab : a = b := UInt8.toNat_inj.1 (by omega)
        subst hab
        rw [if_neg (fun h => h1 (e1.2 h)), if_neg (fun h => h2 (e2.2 h)), if_pos rfl] at h
        have ih := less_or_eq l m h
        simpa using ih

theorem eq_is (x y : List UInt8) : ((B x).toList == (B y).toList) = decide (x = y) := by
  rw [B_list, B_list, Bool.eq_iff_iff, beq_iff_eq, decide_eq_true_eq]
end Go.Proofs.YtppnjkfeefmohaaDoor
