/- The rows' condition on the package's variable, as the walks ask it: the names that Windows keeps lie in it. -/
import Derived.Test.YtppnjkfeefmohaaDoorRows
import Derived.Test.YtppnjkfeefmohaaDoorMdC
import Derived.LaidLaws
import Derived.ChangeArms
import Derived.Stop.Joined
import Derived.OpenVars
namespace Go.Proofs.YtppnjkfeefmohaaDoor
open Go.RowKit Str
set_option linter.unusedVariables false

/-- what the rows list -/
def LAID : List (String × DataW Unit) := [("loop.example/pub-g03259/pub/module.badWindowsNames", Rows.laid_loop_example_pub_g03259_pub_module_badWindowsNames)]

theorem laid_names {H : Type} : (Rows.laid_loop_example_pub_g03259_pub_module_badWindowsNames : DataW H) = .agg (NAMES.map fun l => .lit (.string l)) := rfl
theorem laid_g : Tryd.prog.globalNamed "loop.example/pub-g03259/pub/module.badWindowsNames" = some 3 := by kernel_rfl
theorem laid_t : (Tryd.prog.globals[3]?).map (·.type) = some 105 := by kernel_rfl
theorem laidOut : laidOutB Tryd.prog = true := by kernel_rfl

theorem bad_of_laid {W : World} (h : laidMetH Tryd.prog LAID W) : Bad W := by
  have h' : laidMet Tryd.prog LAID W := h
  obtain ⟨ps, ⟨g, t, cs, fuel, p, q, hg, ht, hv, hd, _, _⟩, _, _⟩ := h'
  obtain rfl := Option.some.inj (laid_g.symm.trans hg)
  obtain rfl := Option.some.inj (laid_t.symm.trans ht)
  obtain ⟨xs, m, _, ex, _, hl, hel⟩ := DataW.trod_array Tryd.underlying105 hd
  have c5 : Tryd.prog.cellsOf 9 = 1 := by kernel_rfl
  have e3 : (xs.map (·.1)) = NAMES.map fun l => .lit (.string l) := (DataW.agg.inj (Prod.mk.inj ex).1).symm
  have hlen : NAMES.length = 22 := rfl
  have cell : ∀ j, (hj : j < 22) → W.cell? ⟨3, j, none⟩ = some (.string (B (NAMES[j]'(by rw [hlen]; exact hj)))) := fun j hj => by
    have hE := hel j hj
    rw [c5, Nat.mul_one, List.getElem?_eq_getElem (by omega)] at hE
    obtain ⟨z, e1, e2, _⟩ := DataW.trod_string Tryd.underlying9 hE
    have e4 : (xs.map (·.1))[j]? = (NAMES.map fun l => (DataW.lit (.string l) : DataW Unit))[j]? := by rw [e3]
    rw [List.getElem?_map, List.getElem?_map, List.getElem?_eq_getElem (by omega : j < xs.length), List.getElem?_eq_getElem (by omega : j < NAMES.length), e2] at e4
    have hz : z = B (NAMES[j]'(by rw [hlen]; exact hj)) := by
      simp only [Option.map_some, Option.some.injEq, DataW.lit.injEq, Lit.string.injEq] at e4
      rw [← e4, B_of]
    rw [World.var?_cell laid_g hv j, ← hz]
    have : cs.toList[j]? = some (.string z) := by
      have h0 : ((cs.toList.drop j).take 1)[0]? = some (.string z) := by rw [e1]; rfl
      simpa using h0
    simpa using this
  refine ⟨?_, fun j v hj => ?_⟩
  · have h0 := cell 0 (by omega)
    unfold World.cell? at h0
    by_cases hb : 3 < W.heap.size
    · exact hb
    · rw [Array.getElem?_eq_none (by simpa using hb)] at h0; cases h0
  · rw [List.getElem?_map] at hj
    obtain ⟨l, hl', rfl⟩ := Option.map_eq_some_iff.1 hj
    obtain ⟨q1, q2⟩ := List.getElem?_eq_some_iff.1 hl'
    rw [Nat.zero_add, cell j (by omega), q2]
end Go.Proofs.YtppnjkfeefmohaaDoor
