/- What package module's checkElem says of a part of a path, in plain words; errors; the names that Windows keeps. -/
import Derived.Test.YtppnjkfeefmohaaDoorMdB
import Derived.Test.YtppnjkfeefmohaaDoorShelf
import Derived.Deep.MidRow
import Derived.Lib.Fold
namespace Go.Proofs.YtppnjkfeefmohaaDoor
open Go.RowKit Str
set_option linter.unusedVariables false

/-- an error, or none -/
def Err (ok : Bool) (x : Value) : Prop := match ok with | true => x = .nilIface | false => ∃ t a, x = .iface t (.pointer (some a))

theorem errorsNew_calls (s : ByteArray) (w : World) : Calls Tryd.prog 46 #[.string s] w fun e w' => (∃ a, e = .returned (.iface 85 (.pointer (some a)))) ∧ Gr w w' := by
  go_enter Tryd.func46, Tryd.ntmps46
  go_wp2
  go_ret
  exact ⟨⟨_, rfl⟩, (Gr.refl _).alloc _⟩

/-- the names that Windows keeps -/
def NAMES : List (List UInt8) := [[67, 79, 78], [80, 82, 78], [65, 85, 88], [78, 85, 76], [67, 79, 77, 49], [67, 79, 77, 50], [67, 79, 77, 51], [67, 79, 77, 52], [67, 79, 77, 53], [67, 79, 77, 54], [67, 79, 77, 55], [67, 79, 77, 56], [67, 79, 77, 57],
  [76, 80, 84, 49], [76, 80, 84, 50], [76, 80, 84, 51], [76, 80, 84, 52], [76, 80, 84, 53], [76, 80, 84, 54], [76, 80, 84, 55], [76, 80, 84, 56], [76, 80, 84, 57]]
/-- they lie in the package's variable -/
def Bad (w : World) : Prop := 3 < w.heap.size ∧ w.rangeAt 3 0 (NAMES.map fun l => .string (B l))
theorem Bad.keep {w W : World} (h : Bad w) (g : Gr w W) : Bad W := ⟨Nat.lt_of_lt_of_le h.1 g.size, fun j v hj => (g.below.cell (p := ⟨_, _, none⟩) h.1).trans (h.2 j v hj)⟩

/-- the part of a name that stands ahead of its first point -/
def short (l : List UInt8) : List UInt8 := l.takeWhile (· != 46)
def badName (l : List UInt8) : Bool := NAMES.any fun b => Lib.equalFold b l
/-- does a name end with a tilde (its last one) and figures? -/
def tildeEnd (l : List UInt8) : Bool := decide (0 ≤ lastTo 126 l l.length ∧ lastTo 126 l l.length < (l.length : Int) - 1) && (l.drop ((lastTo 126 l l.length).toNat + 1)).all fun c => decide (48 ≤ c.toNat ∧ c.toNat ≤ 57)
/-- what checkElem asks -/
def elemOk (kind : Nat) (l : List UInt8) : Bool :=
  !l.isEmpty && (l.count 46 != l.length) && !(l.head? == some 46 && kind == 0) && (l.getLast? != some 46) && l.all (fun c => runeOk kind c.toNat) && !badName (short l) && (kind == 2 || !tildeEnd (short l))

theorem load_bad {w : World} (h : Bad w) : (Instr.loadAt 105 (.pointer (some ⟨3, 0, none⟩))).run Tryd.prog w = .ok (.agg (NAMES.map fun l => (.string (B l) : Value)).toArray) w :=
  run_loadAt_mid w _ 0 _ _ (.array 22 9) h.2 (by kernel_rfl) rfl (by kernel_rfl)

theorem bad_cells {w : World} (h : Bad w) : w.cell? ⟨3, 0, none⟩ = some (.string (B [67, 79, 78])) ∧ w.cell? ⟨3, 1, none⟩ = some (.string (B [80, 82, 78])) ∧ w.cell? ⟨3, 2, none⟩ = some (.string (B [65, 85, 88])) ∧ w.cell? ⟨3, 3, none⟩ = some (.string (B [78, 85, 76])) ∧ w.cell? ⟨3, 4, none⟩ = some (.string (B [67, 79, 77, 49])) ∧ w.cell? ⟨3, 5, none⟩ = some (.string (B [67, 79, 77, 50])) ∧ w.cell? ⟨3, 6, none⟩ = some (.string (B [67, 79, 77, 51])) ∧ w.cell? ⟨3, 7, none⟩ = some (.string (B [67, 79, 77, 52])) ∧ w.cell? ⟨3, 8, none⟩ = some (.string (B [67, 79, 77, 53])) ∧ w.cell? ⟨3, 9, none⟩ = some (.string (B [67, 79, 77, 54])) ∧ w.cell? ⟨3, 10, none⟩ = some (.string (B [67, 79, 77, 55])) ∧ w.cell? ⟨3, 11, none⟩ = some (.string (B [67, 79, 77, 56])) ∧ w.cell? ⟨3, 12, none⟩ = some (.string (B [67, 79, 77, 57])) ∧ w.cell? ⟨3, 13, none⟩ = some (.string (B [76, 80, 84, 49])) ∧ w.cell? ⟨3, 14, none⟩ = some (.string (B [76, 80, 84, 50])) ∧ w.cell? ⟨3, 15, none⟩ = some (.string (B [76, 80, 84, 51])) ∧ w.cell? ⟨3, 16, none⟩ = some (.string (B [76, 80, 84, 52])) ∧ w.cell? ⟨3, 17, none⟩ = some (.string (B [76, 80, 84, 53])) ∧ w.cell? ⟨3, 18, none⟩ = some (.string (B [76, 80, 84, 54])) ∧ w.cell? ⟨3, 19, none⟩ = some (.string (B [76, 80, 84, 55])) ∧ w.cell? ⟨3, 20, none⟩ = some (.string (B [76, 80, 84, 56])) ∧ w.cell? ⟨3, 21, none⟩ = some (.string (B [76, 80, 84, 57])) :=
  ⟨h.2 0 _ rfl, h.2 1 _ rfl, h.2 2 _ rfl, h.2 3 _ rfl, h.2 4 _ rfl, h.2 5 _ rfl, h.2 6 _ rfl, h.2 7 _ rfl, h.2 8 _ rfl, h.2 9 _ rfl, h.2 10 _ rfl, h.2 11 _ rfl, h.2 12 _ rfl, h.2 13 _ rfl, h.2 14 _ rfl, h.2 15 _ rfl, h.2 16 _ rfl, h.2 17 _ rfl, h.2 18 _ rfl, h.2 19 _ rfl, h.2 20 _ rfl, h.2 21 _ rfl⟩
/-- the names as the code holds them -/
def NV : Array Value := #[.string (B [67, 79, 78]), .string (B [80, 82, 78]), .string (B [65, 85, 88]), .string (B [78, 85, 76]), .string (B [67, 79, 77, 49]), .string (B [67, 79, 77, 50]), .string (B [67, 79, 77, 51]), .string (B [67, 79, 77, 52]), .string (B [67, 79, 77, 53]), .string (B [67, 79, 77, 54]), .string (B [67, 79, 77, 55]), .string (B [67, 79, 77, 56]), .string (B [67, 79, 77, 57]), .string (B [76, 80, 84, 49]), .string (B [76, 80, 84, 50]), .string (B [76, 80, 84, 51]), .string (B [76, 80, 84, 52]), .string (B [76, 80, 84, 53]), .string (B [76, 80, 84, 54]), .string (B [76, 80, 84, 55]), .string (B [76, 80, 84, 56]), .string (B [76, 80, 84, 57])]

theorem index_bad (w : World) : ∀ (k : Nat) (hk : k < NAMES.length), (Instr.index 105 (.agg NV) (.int .i64 k)).run Tryd.prog w = .ok (.string (B (NAMES[k]))) w
  | 0, _ => by kernel_rfl
  | 1, _ => by kernel_rfl
  | 2, _ => by kernel_rfl
  | 3, _ => by kernel_rfl
  | 4, _ => by kernel_rfl
  | 5, _ => by kernel_rfl
  | 6, _ => by kernel_rfl
  | 7, _ => by kernel_rfl
  | 8, _ => by kernel_rfl
  | 9, _ => by kernel_rfl
  | 10, _ => by kernel_rfl
  | 11, _ => by kernel_rfl
  | 12, _ => by kernel_rfl
  | 13, _ => by kernel_rfl
  | 14, _ => by kernel_rfl
  | 15, _ => by kernel_rfl
  | 16, _ => by kernel_rfl
  | 17, _ => by kernel_rfl
  | 18, _ => by kernel_rfl
  | 19, _ => by kernel_rfl
  | 20, _ => by kernel_rfl
  | 21, _ => by kernel_rfl
  | k + 22, h => absurd h (by show ¬ k + 22 < 22; omega)
theorem names_asc : ∀ l ∈ NAMES, Asc l := by unfold NAMES Asc; decide
theorem names_short : ∀ l ∈ NAMES, l.length ≤ 4 := by unfold NAMES; decide

/-- a tilde and figures, part by part -/
theorem tilde_parts (l : List UInt8) : (tildeEnd l = false ∧ lastTo 126 l l.length < 0) ∨ (tildeEnd l = false ∧ ∃ t : Nat, lastTo 126 l l.length = (t : Int) ∧ (l.length : Int) - 1 ≤ t) ∨
    (∃ t : Nat, lastTo 126 l l.length = (t : Int) ∧ (t : Int) < (l.length : Int) - 1 ∧ tildeEnd l = (l.drop (t + 1)).all fun c => decide (48 ≤ c.toNat ∧ c.toNat ≤ 57)) := by
  unfold tildeEnd
  by_cases h1 : 0 ≤ lastTo 126 l l.length
  · obtain ⟨t, ht⟩ : ∃ t : Nat, lastTo 126 l l.length = (t : Int) := ⟨(lastTo 126 l l.length).toNat, by omega⟩
    rw [ht]
    by_cases h2 : (t : Int) < (l.length : Int) - 1
    · right; right
      refine ⟨t, rfl, h2, ?_⟩
      rw [decide_eq_true ⟨by omega, h2⟩, Bool.true_and, Int.toNat_natCast]
    · right; left
      refine ⟨?_, t, rfl, by omega⟩
      rw [decide_eq_false (fun h => h2 h.2), Bool.false_and]
  · left
    refine ⟨?_, by omega⟩
    rw [decide_eq_false (fun h => h1 h.1), Bool.false_and]
end Go.Proofs.YtppnjkfeefmohaaDoor
