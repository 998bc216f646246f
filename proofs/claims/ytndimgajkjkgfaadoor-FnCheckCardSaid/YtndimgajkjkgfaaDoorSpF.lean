/- The walk of the reference's Compare. -/
import Derived.Test.YtndimgajkjkgfaaDoorSpE
import Derived.Deep.RegionHeld3
namespace Go.Proofs.YtndimgajkjkgfaaDoor
open Go.RowKit Str Ver
set_option linter.unusedVariables false

theorem spParse_bad {s : ByteArray} (w : World) (hs : s.size ≤ 140737488351232) (h : Ver.parse s.data.toList = none) :
    Calls Tryd.prog 27 #[.string s] w fun e w' => e = .returned (.tuple #[.agg #[.string (B []), .string (B []), .string (B []), .string (B []), .string (B []), .string (B [])], .bool false]) ∧ Gr w w' :=
  (Parse_calls s w hs).mono fun e w' ⟨h1, h2⟩ => by
    unfold ParseS at h1; rw [h] at h1; exact ⟨h1, h2⟩
theorem spParse_good {s : ByteArray} {v : V} (w : World) (hs : s.size ≤ 140737488351232) (h : Ver.parse s.data.toList = some v) :
    Calls Tryd.prog 27 #[.string s] w fun e w' => e = .returned (.tuple #[.agg #[.string (B v.major), .string (B v.minor), .string (B v.patch), .string (B v.short), .string (B v.pre), .string (B v.build)], .bool true]) ∧ Gr w w' :=
  (Parse_calls s w hs).mono fun e w' ⟨h1, h2⟩ => by
    unfold ParseS at h1; rw [h] at h1; exact ⟨h1, h2⟩

/-- what both versions' cells hold -/
@[reducible] def Two (a b : Nat) (v u : V) (w W : World) : Prop :=
  W.cell? ⟨a, 0, none⟩ = some (.string (B v.major)) ∧ W.cell? ⟨a, 1, none⟩ = some (.string (B v.minor)) ∧ W.cell? ⟨a, 2, none⟩ = some (.string (B v.patch)) ∧ W.cell? ⟨a, 4, none⟩ = some (.string (B v.pre)) ∧
  W.cell? ⟨b, 0, none⟩ = some (.string (B u.major)) ∧ W.cell? ⟨b, 1, none⟩ = some (.string (B u.minor)) ∧ W.cell? ⟨b, 2, none⟩ = some (.string (B u.patch)) ∧ W.cell? ⟨b, 4, none⟩ = some (.string (B u.pre)) ∧
  a < W.heap.size ∧ b < W.heap.size ∧ Gr w W
theorem Two.keep {a b : Nat} {v u : V} {w W1 W2 : World} (h : Two a b v u w W1) (g : Gr W1 W2) : Two a b v u w W2 := by
  obtain ⟨h0, h1, h2, h3, h4, h5, h6, h7, h8, h9, h10⟩ := h
  exact ⟨(g.cells.1 _ _ h8).trans h0, (g.cells.1 _ _ h8).trans h1, (g.cells.1 _ _ h8).trans h2, (g.cells.1 _ _ h8).trans h3, (g.cells.1 _ _ h9).trans h4, (g.cells.1 _ _ h9).trans h5, (g.cells.1 _ _ h9).trans h6, (g.cells.1 _ _ h9).trans h7, Nat.lt_of_lt_of_le h8 g.cells.2.2, Nat.lt_of_lt_of_le h9 g.cells.2.2, h10.trans g⟩

/-- the order, from one of the three numbers on -/
def left (f1 f2 f3 f4 : Int) : Nat → Int
  | 0 => if f1 = 0 then if f2 = 0 then if f3 = 0 then f4 else f3 else f2 else f1
  | 1 => if f2 = 0 then if f3 = 0 then f4 else f3 else f2
  | 2 => if f3 = 0 then f4 else f3
  | _ => f4

end Go.Proofs.YtndimgajkjkgfaaDoor
