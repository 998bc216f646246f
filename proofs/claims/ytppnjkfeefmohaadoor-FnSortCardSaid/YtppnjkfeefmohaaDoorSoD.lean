/- A list of paths and versions that came in, opened. -/
import Derived.Test.YtppnjkfeefmohaaDoorSoC
import Derived.ChangeSame
import Derived.SliceStrings
namespace Go.Proofs.YtppnjkfeefmohaaDoor
open Go.ChangeShapes Go.WideShapes Go.ChangeAt Go.RowKit
set_option linter.unusedVariables false

theorem cells_iv : Tryd.prog.cellsOf 27 = 2 := by kernel_rfl
theorem cells_str : Tryd.prog.cellsOf 9 = 1 := by kernel_rfl

theorem two_of {l : List Value} (h : l.length = 2) : ∃ a b, l = [a, b] := by
  match l, h with
  | [a, b], _ => exact ⟨a, b, rfl⟩
theorem pair_eq {l : List Value} (h : l.length = 2) {p v : Value} (hp : (l.drop 0).take 1 = [p]) (hv : (l.drop 1).take 1 = [v]) : l = [p, v] := by
  obtain ⟨a, b, rfl⟩ := two_of h
  simp at hp hv
  rw [hp, hv]

theorem pair_of {H : Type} {enc : TypeId × Value → H} {W : World} {m : Nat} {cs : List Value} {y : DataW H × List MemPlace} (h : DataW.trod enc Tryd.prog W 0 (fun _ => true) true m 27 cs = some y) :
    ∃ p v : ByteArray, cs = [.string p, .string v] := by
  obtain ⟨y0, y1, n, _, hl, h0, h1⟩ := trod_struct2 Tryd.underlying27 h
  obtain ⟨p, hp, _⟩ := DataW.trod_string Tryd.underlying9 h0
  obtain ⟨v, hv, _⟩ := DataW.trod_string Tryd.underlying9 h1
  rw [cells_str] at hp hv
  rw [cells_iv] at hl
  exact ⟨p, v, pair_eq hl hp hv⟩

theorem open_vers {H : Type} {enc : TypeId × Value → H} {W : World} {a0 : Option Addr} {len cap fuel : Nat} {x : DataW H × List MemPlace}
    (hf : DataW.trod enc Tryd.prog W 0 (fun _ => true) true fuel 22 [.slice a0 len cap] = some x) :
    ∃ (b off : Nat) (L : List (ByteArray × ByteArray)), L.length = len ∧ (0 < len → a0 = some ⟨b, off, none⟩) ∧ LieV W b off L ∧ len ≤ maxLen := by
  rcases DataW.trod_slice Tryd.underlying22 hf with ⟨hcs, _⟩ | ⟨a, len', cap', elems, rest, m, _, hcs, _, _, hl, hm, hel, hcells, _, _⟩
  · simp at hcs
    obtain ⟨rfl, rfl, rfl⟩ := hcs
    exact ⟨0, 0, [], rfl, fun h => absurd h (by omega), ⟨fun h => absurd rfl h, fun j X h => by simp at h⟩, Nat.zero_le _⟩
  · simp at hcs
    obtain ⟨rfl, rfl, rfl⟩ := hcs
    have each : ∀ i, i < len → ∃ q : ByteArray × ByteArray, W.cell? ((a.add (i * 2)).add 0) = some (.string q.1) ∧ W.cell? ((a.add (i * 2)).add 1) = some (.string q.2) := by
      intro i hi
      have h := hcells i hi
      rw [cells_iv, List.getElem?_eq_getElem (by omega), Option.bind_eq_some_iff] at h
      obtain ⟨cs', hc, hy⟩ := h
      obtain ⟨p, v, rfl⟩ := pair_of hy
      have hh := (World.cells?_some hc).2.2
      exact ⟨(p, v), by simpa using hh 0 (by omega), by simpa using hh 1 (by omega)⟩
    obtain ⟨f, hfn⟩ : ∃ f : Nat → ByteArray × ByteArray, ∀ i, i < len → W.cell? ((a.add (i * 2)).add 0) = some (.string (f i).1) ∧ W.cell? ((a.add (i * 2)).add 1) = some (.string (f i).2) := by
      refine ⟨fun i => if h : i < len then Classical.choose (each i h) else (⟨#[]⟩, ⟨#[]⟩), fun i hi => ?_⟩
      simp only [dif_pos hi]
      exact Classical.choose_spec (each i hi)
    obtain ⟨b, off, spot⟩ := a
    by_cases h0 : len = 0
    · subst h0
      exact ⟨b, off, [], rfl, fun h => absurd h (by omega), ⟨fun h => absurd rfl h, fun j X h => by simp at h⟩, Nat.zero_le _⟩
    · have hspot : spot = none := by simpa [Addr.add] using World.cell?_spot (hfn 0 (by omega)).1
      subst hspot
      have plain : ∀ i c, ((⟨b, off, none⟩ : Addr).add (i * 2)).add c = ⟨b, off + i * 2 + c, none⟩ := fun i c => by rw [add_plain, add_plain]
      refine ⟨b, off, (List.range len).map f, by simp, fun _ => rfl, ⟨fun _ => ?_, fun j X hj => ?_⟩, by omega⟩
      · have := (hfn 0 (by omega)).1
        rw [plain] at this
        exact World.block_lt_of_cell? _ _ this
      · rw [List.getElem?_map] at hj
        obtain ⟨z, hz, rfl⟩ := Option.map_eq_some_iff.1 hj
        obtain ⟨hlt, rfl⟩ := List.getElem?_eq_some_iff.1 hz
        have hj' : j < len := by simpa using hlt
        obtain ⟨c1, c2⟩ := hfn j hj'
        rw [plain] at c1 c2
        rw [List.getElem_range]
        exact ⟨c1, c2⟩
end Go.Proofs.YtppnjkfeefmohaaDoor
